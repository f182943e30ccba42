/-
  The reference's WordsOf: what a call does.
-/
import Derived.Test.YtnldkgicfgcljaaSpecD
import Derived.Test.YtnldkgicfgcljaaNumY
import Derived.StillTailTactics
namespace Go.Proofs.Ytnldkgicfgcljaa
open Go Go.RowKit

/-- A row of bytes. -/
def Ys (w : World) (B : Nat) (zs : List Nat) : Prop := ∀ i, i < zs.length → w.cell? ⟨B, i, none⟩ = some (.int .u8 ((zs.getD i 0 : Nat) : Int))

theorem shli {P : Program} {w : World} {n k : Nat} (hk : k < 64) : (Op.shift .shl .u64 n .i64 k).run P w = .ok (.int .u64 ((n * 2 ^ k % 18446744073709551616 : Nat) : Int)) w := by
  have h0 : ¬ ((k : Int) < 0) := by omega
  have h1 : min ((k : Int).toNat) (IntKind.u64.bits) = k := by simp [IntKind.bits]; omega
  simp only [Op.shift, if_neg h0, h1]
  show Result.ok (Value.int .u64 (IntKind.u64.wrap ((n : Int) * 2 ^ k))) w = _
  have : (n : Int) * 2 ^ k = ((n * 2 ^ k : Nat) : Int) := by simp
  rw [this, wrap64_mod]

def RelO (xs : List Nat) (w : World) (i : Value) (wr : World) : Prop :=
  ∃ (k : Nat) (l : List Nat), k ≤ 48 ∧ i = .int .i64 (k : Int) ∧ l.length = 6 ∧ Wd l ∧ num l = numY (xs.take k) ∧ wr.heap[w.heap.size]? = some (.cells (rowOf false l) 22 (0, 0)) ∧ Below w.heap.size w wr

set_option maxHeartbeats 1000000 in
theorem wordsof_any (w : World) (b1 c1 : Nat) (xs : List Nat) (hl : Hid (xs.length = 48)) (wx : ∀ x ∈ xs, x < 256) (hx : Ys w b1 xs) (h1 : b1 < w.heap.size) :
    Calls Try.prog 14 #[.slice (some ⟨b1, 0, none⟩) 48 c1, .int .i64 6] w (NewRow (fun rs => num rs = numY xs) w) := by
  have hmk := mk_run
  go_enter Try.func14, Try.ntmps14
  go_wp2
  clear hmk
  go_loopw [6] (fun i wr => RelO xs w i wr) (fun i _ => (48 - (intOf i).toNat))
  case atStart =>
    exact ⟨0, [0, 0, 0, 0, 0, 0], by omega, rfl, rfl, Wd.of_mem (by simp), by simp [num, numY], ha_same _ _ rfl, (Below.refl _ _).alloc (Nat.le_refl _) _⟩
  case round =>
    obtain ⟨k, l, hk, rfl, hlen, hwd, hR, hrow, hbel⟩ := hrel
    by_cases hk1 : k < 48
    · have hcx : wr.cell? ⟨b1, k, none⟩ = some (.int .u8 ((xs.getD k 0 : Nat) : Int)) := by rw [hbel.cell (p := ⟨b1, k, none⟩) h1]; exact hx k (by rw [hl.out]; exact hk1)
      have hcz := row_get hrow (k / 8) (by rw [hlen]; omega)
      have hfz := frozen_of_heap hrow (k / 8)
      have hst := Lib.hid (words_step hR wx (by rw [hl.out]; exact hk1) (by rw [hlen]; omega))
      have hrow' := Lib.hid (fun z => row_set hrow (k / 8) z)
      have hlen' := Lib.hid hlen
      have hxk : xs.getD k 0 < 256 := by
        have h3 : k < xs.length := by rw [hl.out]; exact hk1
        have := wx xs[k] (List.getElem_mem h3)
        simpa [h3] using this
      have e1 : IntKind.i64.wrap ((k : Int) / 8) = ((k / 8 : Nat) : Int) := by rw [IntKind.wrap_i64]; omega
      have e6 : ((k / 8 : Nat) : Int) < 6 := by omega
      have e7 : (k : Int) < 48 := by omega
      have hsh : ∀ w, (Op.shift .shl .u64 (IntKind.u64.wrap ((xs.getD k 0 : Nat) : Int)) .i64 (IntKind.i64.wrap (8 * (k : Int).tmod 8))).run Try.prog w = .ok (.int .u64 ((xs.getD k 0 * 2 ^ (8 * (k % 8)) : Nat) : Int)) w := by
        intro w
        have t1 : (k : Int).tmod 8 = ((k % 8 : Nat) : Int) := by rw [Int.tmod_eq_emod_of_nonneg (by omega)]; omega
        have t2 : IntKind.i64.wrap (8 * ((k % 8 : Nat) : Int)) = ((8 * (k % 8) : Nat) : Int) := by rw [IntKind.wrap_i64]; omega
        rw [t1, t2, wrap64_nat (by omega), shli (by omega), Nat.mod_eq_of_lt hst.out.2.1]
      have e9 : IntKind.u64.wrap (((l.getD (k / 8) 0 : Nat) : Int) + ((xs.getD k 0 * 2 ^ (8 * (k % 8)) : Nat) : Int)) = ((l.getD (k / 8) 0 + xs.getD k 0 * 2 ^ (8 * (k % 8)) : Nat) : Int) := by
        rw [← Int.natCast_add, wrap64_nat hst.out.1]
      have hs1 := Lib.hid hst.out.1
      have hs2 := Lib.hid hst.out.2.2
      clear hlen hrow hR hx hst wx hxk
      generalize l.getD (k / 8) 0 + xs.getD k 0 * 2 ^ (8 * (k % 8)) = s at e9 hs1 hs2
      generalize xs.getD k 0 * 2 ^ (8 * (k % 8)) = y at hsh e9
      generalize l.getD (k / 8) 0 = z0 at hcz e9
      generalize k / 8 = q at hcz hfz hs2 hrow' e1 e6
      generalize xs.getD k 0 = x at hcx hsh
      have hcx' : wr.drew.cell? ⟨b1, k, none⟩ = some (.int .u8 (x : Int)) := hcx
      have hcz' : wr.drew.cell? ⟨w.heap.size, q, none⟩ = some (.int .u64 (z0 : Int)) := hcz
      have hfz' : wr.drew.frozen? ⟨w.heap.size, q, none⟩ = false := hfz
      go_wp2
      go_still_tail 19, mixed
      go_wp2
      exact ⟨⟨k + 1, l.set q s, by omega, by go_num, by simp [hlen'.out], hwd.set hs1.out, hs2.out, hrow'.out s, (hbel.drew).setCell (Nat.le_refl _) _⟩, by simp [intOf]; omega⟩
    · obtain rfl : k = 48 := by omega
      have hR' := Lib.hid hR
      have hrow' := Lib.hid hrow
      have hlen' := Lib.hid hlen
      clear hR hrow hlen hx hk hk1
      go_wp2
      go_ret
      exact ⟨w.heap.size, l, rfl, Nat.le_refl _, hrow'.out, hwd, hlen'.out, hR'.out.trans (by rw [List.take_of_length_le (by rw [hl.out]; omega)]), hbel⟩

end Go.Proofs.Ytnldkgicfgcljaa
