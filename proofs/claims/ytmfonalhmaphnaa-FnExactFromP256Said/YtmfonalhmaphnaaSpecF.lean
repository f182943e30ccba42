/-
  The reference's sum modulo the prime, and its shift: what a call does.
-/
import Derived.Test.YtmfonalhmaphnaaSpecD
import Derived.Test.YtmfonalhmaphnaaHold
namespace Go.Proofs.Ytmfonalhmaphnaa
open Go Go.RowKit

theorem addw_fin {a b z z2 c c2 p R : Nat} (ha : a < p) (hb : b < p) (hp : p < R) (h1 : z + R * c = a + b) (h2 : z2 + p = z + R * c2) (hz2 : z2 < R) (hc : c ≤ 1) (hc2 : c2 ≤ 1) (hg : c = 1 ∨ p ≤ z) : z2 = (a + b) % p := by
  have h3 : z2 = a + b - p := by
    have : c = 0 ∨ c = 1 := by omega
    have : c2 = 0 ∨ c2 = 1 := by omega
    rcases ‹c = 0 ∨ c = 1› with rfl | rfl <;> rcases ‹c2 = 0 ∨ c2 = 1› with rfl | rfl <;> simp only [Nat.mul_zero, Nat.mul_one, Nat.add_zero] at * <;> omega
  have h4 : p ≤ a + b := by
    rcases hg with rfl | h
    · omega
    · have : c = 0 ∨ c = 1 := by omega
      rcases this with rfl | rfl <;> omega
  rw [h3, Nat.mod_eq_sub_mod h4, Nat.mod_eq_of_lt (by omega)]

set_option maxHeartbeats 1000000 in
theorem addw_any (w : World) (b1 b2 b3 c1 c2 c3 : Nat) (xs ys : List Nat) (hl : Hid (xs.length = 4 ∧ ys.length = 4)) (wx : Wd xs) (wy : Wd ys) (hlt : Hid (num xs < num pws ∧ num ys < num pws)) (hx : Ws w b1 xs) (hy : Ws w b2 ys) (hm : Ws w b3 pws)
    (h1 : b1 < w.heap.size) (h2 : b2 < w.heap.size) (h3 : b3 < w.heap.size) :
    Calls Try.prog 10 #[.slice (some ⟨b1, 0, none⟩) 4 c1, .slice (some ⟨b2, 0, none⟩) 4 c2, .slice (some ⟨b3, 0, none⟩) 4 c3] w
      (NewRow (fun rs => num rs = (num xs + num ys) % num pws) w) := by
  go_enter Try.func10, Try.ntmps10
  go_wp2_with fail
  refine (plus_any _ b1 b2 c1 c2 xs ys hl wx wy hx hy h1 h2).mono ?_
  rintro e w1 ⟨zs, c, hq, hc, hlen, hwd, rfl, hrow, hbel⟩
  have hq' := Lib.hid hq
  have hlen' := Lib.hid hlen
  have hrow' := Lib.hid hrow
  have hw1 := lt_of_heap hrow
  clear hq hlen hrow
  have : c = 0 ∨ c = 1 := by omega
  rcases this with rfl | rfl
  · have hb : decide ((0 : Nat) = 1) = false := rfl
    go_wp2_with fail
    by_cases hz : num zs < num pws
    · have hz' := Lib.hid hz
      clear hz
      refine (less_any w1 w.heap.size b3 4 4 c3 zs pws ⟨hlen'.out, rfl⟩ (by omega) hwd pws_wd (row_get hrow'.out) (hm.below hbel h3)).mono ?_
      rintro e w2 ⟨rfl, m, rfl⟩
      rw [decide_eq_true hz'.out]
      go_wp2_with fail
      go_ret
      refine ⟨w.heap.size, zs, rfl, Nat.le_refl _, hrow'.out, hwd, hlen'.out, ?_, ⟨hbel.os, hbel.tape, hbel.output, hbel.size, hbel.block⟩⟩
      have h1 := hq'.out
      simp only [Nat.mul_zero, Nat.add_zero] at h1
      rw [← h1, Nat.mod_eq_of_lt hz'.out]
    · have hz' := Lib.hid hz
      clear hz
      refine (less_any w1 w.heap.size b3 4 4 c3 zs pws ⟨hlen'.out, rfl⟩ (by omega) hwd pws_wd (row_get hrow'.out) (hm.below hbel h3)).mono ?_
      rintro e w2 ⟨rfl, m, rfl⟩
      rw [decide_eq_false hz'.out]
      go_wp2_with fail
      refine (lessen_any (w1.drewN m) w.heap.size b3 4 c3 zs pws ⟨hlen'.out, rfl⟩ hwd pws_wd (row_get (w := w1.drewN m) hrow'.out) (hm.below (w' := w1.drewN m) ⟨hbel.os, hbel.tape, hbel.output, hbel.size, hbel.block⟩ h3) hw1 (Nat.lt_of_lt_of_le h3 hbel.size)).mono ?_
      rintro e w2 ⟨zs2, c2, hq2, hc2, hlen2, hwd2, rfl, hrow2, hbel2⟩
      have hq2' := Lib.hid hq2
      have hlen2' := Lib.hid hlen2
      have hrow2' := Lib.hid hrow2
      clear hq2 hlen2 hrow2
      go_wp2_with fail
      go_ret
      refine ⟨w1.heap.size, zs2, rfl, Nat.le_of_lt hw1, hrow2'.out, hwd2, hlen2'.out, ?_, (show Below w.heap.size w (w1.drewN m) from ⟨hbel.os, hbel.tape, hbel.output, hbel.size, hbel.block⟩).trans (hbel2.mono (Nat.le_of_lt hw1))⟩
      exact addw_fin hlt.out.1 hlt.out.2 pws_lt hq'.out hq2'.out (by have := num_lt hwd2; rwa [hlen2'.out] at this) (by omega) hc2 (.inr (Nat.le_of_not_lt hz'.out))
  · have hb : decide ((1 : Nat) = 1) = true := rfl
    go_wp2_with fail
    refine (lessen_any (w1) w.heap.size b3 4 c3 zs pws ⟨hlen'.out, rfl⟩ hwd pws_wd (row_get (w := w1) hrow'.out) (hm.below (w' := w1) ⟨hbel.os, hbel.tape, hbel.output, hbel.size, hbel.block⟩ h3) hw1 (Nat.lt_of_lt_of_le h3 hbel.size)).mono ?_
    rintro e w2 ⟨zs2, c2, hq2, hc2, hlen2, hwd2, rfl, hrow2, hbel2⟩
    have hq2' := Lib.hid hq2
    have hlen2' := Lib.hid hlen2
    have hrow2' := Lib.hid hrow2
    clear hq2 hlen2 hrow2
    go_wp2_with fail
    go_ret
    refine ⟨w1.heap.size, zs2, rfl, Nat.le_of_lt hw1, hrow2'.out, hwd2, hlen2'.out, ?_, (show Below w.heap.size w (w1) from ⟨hbel.os, hbel.tape, hbel.output, hbel.size, hbel.block⟩).trans (hbel2.mono (Nat.le_of_lt hw1))⟩
    exact addw_fin hlt.out.1 hlt.out.2 pws_lt hq'.out hq2'.out (by have := num_lt hwd2; rwa [hlen2'.out] at this) (by omega) hc2 (.inl rfl)

/-- What Shifted hands back. -/
def ShRow (Q : List Nat → Prop) (w : World) (e : Ending) (w' : World) : Prop :=
  ∃ B c rs, e = .returned (.slice (some ⟨B, 0, none⟩) 4 c) ∧ Ws w' B rs ∧ B < w'.heap.size ∧ Wd rs ∧ rs.length = 4 ∧ Q rs ∧ Below w.heap.size w w'

def RelS (xs : List Nat) (w : World) (v i : Value) (wr : World) : Prop :=
  ∃ (k B c : Nat) (zs : List Nat), k ≤ 256 ∧ i = .int .i64 (k : Int) ∧ v = .slice (some ⟨B, 0, none⟩) 4 c ∧ zs.length = 4 ∧ Wd zs ∧ num zs < num pws ∧ num zs = 2 ^ k * num xs % num pws ∧ Ws wr B zs ∧ B < wr.heap.size ∧ Below w.heap.size w wr

theorem pw_two : pw 4 = 2 ^ 256 := by decide +kernel
theorem pws_pos : 0 < num pws := by decide +kernel

theorem dbl {N k x p : Nat} (h : N = 2 ^ k * x % p) : (N + N) % p = 2 ^ (k + 1) * x % p := by
  rw [h, ← Nat.two_mul, Nat.mul_mod_mod, Nat.pow_succ, Nat.mul_comm (2 ^ k) 2, Nat.mul_assoc]

set_option maxHeartbeats 1000000 in
theorem shifted_any (w : World) (b1 b3 c1 c3 : Nat) (xs : List Nat) (hl : Hid (xs.length = 4)) (wx : Wd xs) (hlt : Hid (num xs < num pws)) (hx : Ws w b1 xs) (hm : Ws w b3 pws) (h1 : b1 < w.heap.size) (h3 : b3 < w.heap.size) :
    Calls Try.prog 8 #[.slice (some ⟨b1, 0, none⟩) 4 c1, .slice (some ⟨b3, 0, none⟩) 4 c3] w (ShRow (fun rs => num rs = pw 4 * num xs % num pws) w) := by
  go_enter Try.func8, Try.ntmps8
  go_wp2_with fail
  go_loopw [0, 5] (fun v i wr => RelS xs w v i wr) (fun _ i _ => (256 - (intOf i).toNat))
  case atStart =>
    exact ⟨0, b1, c1, xs, by omega, rfl, rfl, hl.out, wx, hlt.out, by rw [Nat.pow_zero, Nat.one_mul, Nat.mod_eq_of_lt hlt.out], hx, h1, Below.refl _ _⟩
  case round =>
    obtain ⟨k, B, c, zs, hk, rfl, rfl, hlen, hwd, hzl, hzq, hws, hB, hbel⟩ := hrel
    have hlen' := Lib.hid hlen
    have hzl' := Lib.hid hzl
    have hzq' := Lib.hid hzq
    have hm' : Ws wr b3 pws := hm.below hbel h3
    have h3' : b3 < wr.heap.size := Nat.lt_of_lt_of_le h3 hbel.size
    clear hlen hzl hzq
    by_cases hk1 : k < 256
    · have e7 : (k : Int) < 256 := by omega
      go_wp2_with fail
      refine (addw_any wr B B b3 c c c3 zs zs ⟨hlen'.out, hlen'.out⟩ hwd hwd ⟨hzl'.out, hzl'.out⟩ hws hws hm' hB hB h3').mono ?_
      rintro e w2 ⟨B2, rs, rfl, hB2, hrow2, hwd2, hlen2, hq2, hbel2⟩
      have hq2' := Lib.hid hq2
      have hlen2' := Lib.hid hlen2
      have hrow2' := Lib.hid hrow2
      clear hq2 hlen2 hrow2
      go_wp2_with fail
      exact ⟨⟨k + 1, B2, 4, rs, by omega, by go_num, rfl, hlen2'.out, hwd2, (hq2'.out : _ = _) ▸ Nat.mod_lt _ pws_pos, hq2'.out.trans (dbl hzq'.out), row_get hrow2'.out, lt_of_heap hrow2'.out, hbel.trans (hbel2.mono hbel.size)⟩, by simp [intOf]; omega⟩
    · obtain rfl : k = 256 := by omega
      clear hk hk1
      go_wp2_with fail
      go_ret
      exact ⟨B, c, zs, rfl, hws, hB, hwd, hlen'.out, hzq'.out.trans (by rw [pw_two]), hbel⟩

end Go.Proofs.Ytmfonalhmaphnaa
