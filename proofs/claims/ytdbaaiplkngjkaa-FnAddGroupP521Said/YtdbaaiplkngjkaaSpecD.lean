/-
  The reference's prime and its difference modulo the prime: what a call does.
-/
import Derived.Test.YtdbaaiplkngjkaaSpecC
import Derived.Test.YtdbaaiplkngjkaaFiatB
namespace Go.Proofs.Ytdbaaiplkngjkaa
open Go Go.RowKit

/-- A row of words that the call made, handed back as a slice. -/
def NewRow (Q : List Nat → Prop) (w : World) (e : Ending) (w' : World) : Prop :=
  ∃ B rs, e = .returned (.slice (some ⟨B, 0, none⟩) 9 9) ∧ w.heap.size ≤ B ∧ w'.heap[B]? = some (.cells (rowOf false rs) 22 (0, 0)) ∧ Wd rs ∧ rs.length = 9 ∧ Q rs ∧ Below w.heap.size w w'

theorem lt_of_heap {w : World} {B : Nat} {o : Obj} (h : w.heap[B]? = some o) : B < w.heap.size := by
  rcases Nat.lt_or_ge B w.heap.size with h' | h'
  · exact h'
  · rw [Array.getElem?_eq_none h'] at h; cases h

theorem Ws.below {w w' : World} {n B : Nat} {zs : List Nat} (h : Ws w B zs) (hb : Below n w w') (hB : B < n) : Ws w' B zs := fun i hi => by
  rw [hb.cell (p := ⟨B, i, none⟩) hB]; exact h i hi

theorem prime_row (w : World) : (w.alloc (.cells #[.int .u64 ((pws.getD 0 0 : Nat) : Int), .int .u64 ((pws.getD 1 0 : Nat) : Int), .int .u64 ((pws.getD 2 0 : Nat) : Int), .int .u64 ((pws.getD 3 0 : Nat) : Int), .int .u64 ((pws.getD 4 0 : Nat) : Int), .int .u64 ((pws.getD 5 0 : Nat) : Int), .int .u64 ((pws.getD 6 0 : Nat) : Int), .int .u64 ((pws.getD 7 0 : Nat) : Int), .int .u64 ((pws.getD 8 0 : Nat) : Int)] 22)).heap[w.heap.size]? = some (.cells (rowOf false pws) 22 (0, 0)) := ha_same _ _ rfl

set_option maxHeartbeats 400000 in
theorem prime_any (w : World) : Calls Try.prog 8 #[] w (NewRow (fun rs => rs = pws) w) := by
  go_enter Try.func8, Try.ntmps8
  go_wp2
  go_ret
  exact ⟨w.heap.size, pws, rfl, Nat.le_refl _, prime_row w, pws_wd, rfl, rfl, (Below.refl _ _).alloc (Nat.le_refl _) _⟩

set_option maxHeartbeats 1000000 in
theorem subw_any (w : World) (b1 b2 b3 c1 c2 c3 : Nat) (xs ys : List Nat) (hl : Hid (xs.length = 9 ∧ ys.length = 9)) (wx : Wd xs) (wy : Wd ys) (hlt : Hid (num xs < num pws ∧ num ys < num pws)) (hx : Ws w b1 xs) (hy : Ws w b2 ys) (hm : Ws w b3 pws)
    (h1 : b1 < w.heap.size) (h2 : b2 < w.heap.size) (h3 : b3 < w.heap.size) :
    Calls Try.prog 11 #[.slice (some ⟨b1, 0, none⟩) 9 c1, .slice (some ⟨b2, 0, none⟩) 9 c2, .slice (some ⟨b3, 0, none⟩) 9 c3] w
      (NewRow (fun rs => num rs = (num xs + num pws - num ys) % num pws) w) := by
  go_enter Try.func11, Try.ntmps11
  go_wp2_with fail
  refine (lessen_any _ b1 b2 c1 c2 xs ys hl wx wy hx hy h1 h2).mono ?_
  rintro e w1 ⟨zs, c, hq, hc, hlen, hwd, rfl, hrow, hbel⟩
  have hq' := Lib.hid hq
  have hlen' := Lib.hid hlen
  have hrow' := Lib.hid hrow
  have hw1 := lt_of_heap hrow
  clear hq hlen hrow
  have : c = 0 ∨ c = 1 := by omega
  rcases this with rfl | rfl
  · have hb : decide ((0 : Nat) = 1) = false := rfl
    go_wp2_with fail
    go_ret
    refine ⟨w.heap.size, zs, rfl, Nat.le_refl _, hrow'.out, hwd, hlen'.out, ?_, hbel⟩
    have h1 := hq'.out
    have h2 := hlt.out
    rw [show num xs + num pws - num ys = num zs + num pws by omega, Nat.add_mod_right, Nat.mod_eq_of_lt (by omega)]
  · have hb : decide ((1 : Nat) = 1) = true := rfl
    go_wp2_with fail
    refine (plus_any _ w.heap.size b3 9 c3 zs pws ⟨hlen'.out, rfl⟩ hwd pws_wd (row_get hrow'.out) (hm.below hbel h3) hw1 (by omega)).mono ?_
    rintro e w2 ⟨zs2, c2, hq2, hc2, hlen2, hwd2, rfl, hrow2, hbel2⟩
    have hq2' := Lib.hid hq2
    have hlen2' := Lib.hid hlen2
    have hrow2' := Lib.hid hrow2
    clear hq2 hlen2 hrow2
    go_wp2_with fail
    go_ret
    refine ⟨w1.heap.size, zs2, rfl, by omega, hrow2'.out, hwd2, hlen2'.out, ?_, hbel.trans (hbel2.mono (by omega))⟩
    have e1 := hq'.out
    have e2 := hlt.out
    have e3 := hq2'.out
    have e4 := num_lt hwd
    have e5 := num_lt hwd2
    rw [hlen'.out] at e4
    rw [hlen2'.out] at e5
    have e6 := pws_lt
    generalize num pws = p at *
    generalize pw 9 = R at *
    have : c2 = 0 ∨ c2 = 1 := by omega
    rcases this with rfl | rfl
    · omega
    · rw [show num xs + p - num ys = num zs2 by omega, Nat.mod_eq_of_lt (by omega)]

end Go.Proofs.Ytdbaaiplkngjkaa
