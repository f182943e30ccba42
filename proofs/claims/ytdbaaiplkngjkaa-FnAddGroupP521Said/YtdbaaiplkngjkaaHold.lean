/-
  The reference's functions in a world that has only grown: what a call does, said for the laws' walks.
-/
import Derived.Test.YtdbaaiplkngjkaaSpecD
namespace Go.Proofs.Ytdbaaiplkngjkaa
open Go Go.RowKit

/-- The world has only grown since w0, and the rows hold these words. -/
structure Hold (w0 : World) (bs : List (Nat × List Nat)) (W : World) : Prop where
  below : Below w0.heap.size w0 W
  rows : ∀ b xs, (b, xs) ∈ bs → Ws W b xs ∧ b < W.heap.size

theorem Hold.drewN {w0 W : World} {bs : List (Nat × List Nat)} (h : Hold w0 bs W) (m : Nat) : Hold w0 bs (W.drewN m) :=
  ⟨⟨h.below.os, h.below.tape, h.below.output, h.below.size, h.below.block⟩, h.rows⟩

theorem Hold.drew {w0 W : World} {bs : List (Nat × List Nat)} (h : Hold w0 bs W) : Hold w0 bs W.drew := h.drewN 1

theorem Hold.sub {w0 W : World} {bs cs : List (Nat × List Nat)} (h : Hold w0 bs W) (hs : ∀ x ∈ cs, x ∈ bs) : Hold w0 cs W := ⟨h.below, fun b xs hm => h.rows b xs (hs _ hm)⟩

/-- Later: nothing below W has turned. -/
theorem Hold.later {w0 W W' : World} {bs : List (Nat × List Nat)} (h : Hold w0 bs W) (hb : Below W.heap.size W W') : Hold w0 bs W' :=
  ⟨h.below.trans (hb.mono h.below.size), fun b xs hm => ⟨(h.rows b xs hm).1.below hb (h.rows b xs hm).2, Nat.lt_of_lt_of_le (h.rows b xs hm).2 hb.size⟩⟩

theorem Hold.more {w0 W : World} {bs : List (Nat × List Nat)} (h : Hold w0 bs W) {B : Nat} {l : List Nat} {t : TypeId} (hr : W.heap[B]? = some (.cells (rowOf false l) t (0, 0))) : Hold w0 ((B, l) :: bs) W :=
  ⟨h.below, fun b xs hm => by
    rcases List.mem_cons.1 hm with hm | hm
    · cases hm; exact ⟨row_get hr, lt_of_heap hr⟩
    · exact h.rows b xs hm⟩

theorem Hold.refl (w0 : World) : Hold w0 [] w0 := ⟨Below.refl _ _, fun b xs h => by cases h⟩

theorem Hold.box {w0 W : World} {bs : List (Nat × List Nat)} (h : Hold w0 bs W) (l : List Nat) (t : TypeId) {k : Nat} (hk : k = W.heap.size) : Hold w0 ((k, l) :: bs) (W.alloc (.cells (rowOf false l) t)) :=
  (h.later ((Below.refl _ _).alloc (Nat.le_refl _) _)).more (ha_same _ _ hk)

/-- A row that the call made. -/
def HeldNew (Q : List Nat → Prop) (w0 : World) (bs : List (Nat × List Nat)) (e : Ending) (W' : World) : Prop :=
  ∃ B rs, e = .returned (.slice (some ⟨B, 0, none⟩) 9 9) ∧ Q rs ∧ rs.length = 9 ∧ Wd rs ∧ Hold w0 ((B, rs) :: bs) W'

def HeldBool (b : Bool) (w0 : World) (bs : List (Nat × List Nat)) (e : Ending) (W' : World) : Prop := e = .returned (.bool b) ∧ Hold w0 bs W'

theorem NewRow.held {Q : List Nat → Prop} {w0 W : World} {bs : List (Nat × List Nat)} (h : Hold w0 bs W) {e : Ending} {W' : World} (hn : NewRow Q W e W') : HeldNew Q w0 bs e W' := by
  obtain ⟨B, rs, he, hB, hr, hwd, hlen, hq, hb⟩ := hn
  exact ⟨B, rs, he, hq, hlen, hwd, (h.later hb).more hr⟩

theorem prime_hold {w0 W : World} {bs : List (Nat × List Nat)} (h : Hold w0 bs W) : Calls Try.prog 8 #[] W (HeldNew (fun rs => rs = pws) w0 bs) :=
  (prime_any W).mono fun _ _ hn => hn.held h

theorem less_hold {w0 W : World} {bs : List (Nat × List Nat)} {b1 b2 c1 c2 : Nat} (xs ys : List Nat) (h : Hold w0 bs W) (h1 : (b1, xs) ∈ bs) (h2 : (b2, ys) ∈ bs) (l1 : xs.length = 9) (l2 : ys.length = 9) (wx : Wd xs) (wy : Wd ys) (b : Bool) (hb : decide (num xs < num ys) = b) :
    Calls Try.prog 7 #[.slice (some ⟨b1, 0, none⟩) 9 c1, .slice (some ⟨b2, 0, none⟩) 9 c2] W (HeldBool b w0 bs) :=
  (less_any W b1 b2 9 c1 c2 xs ys ⟨l1, l2⟩ (by omega) wx wy (h.rows _ _ h1).1 (h.rows _ _ h2).1).mono fun e W' ⟨he, m, hm⟩ => ⟨by rw [he, hb], by rw [hm]; exact h.drewN m⟩

theorem same_hold {w0 W : World} {bs : List (Nat × List Nat)} {b1 b2 c1 c2 : Nat} (xs ys : List Nat) (h : Hold w0 bs W) (h1 : (b1, xs) ∈ bs) (h2 : (b2, ys) ∈ bs) (l1 : xs.length = 9) (l2 : ys.length = 9) (he : xs = ys) :
    Calls Try.prog 10 #[.slice (some ⟨b1, 0, none⟩) 9 c1, .slice (some ⟨b2, 0, none⟩) 9 c2] W (HeldBool true w0 bs) :=
  (same_any W b1 b2 9 c1 c2 xs ys ⟨l1, l2⟩ (by omega) (h.rows _ _ h1).1 (h.rows _ _ h2).1).mono fun e W' ⟨he', m, hm⟩ => ⟨by rw [he', decide_eq_true he], by rw [hm]; exact h.drewN m⟩

theorem subw_hold {w0 W : World} {bs : List (Nat × List Nat)} {b1 b2 b3 c1 c2 c3 : Nat} (xs ys : List Nat) (h : Hold w0 bs W) (h1 : (b1, xs) ∈ bs) (h2 : (b2, ys) ∈ bs) (h3 : (b3, pws) ∈ bs) (l1 : xs.length = 9) (l2 : ys.length = 9) (wx : Wd xs) (wy : Wd ys)
    (lx : num xs < num pws) (ly : num ys < num pws) :
    Calls Try.prog 11 #[.slice (some ⟨b1, 0, none⟩) 9 c1, .slice (some ⟨b2, 0, none⟩) 9 c2, .slice (some ⟨b3, 0, none⟩) 9 c3] W (HeldNew (fun rs => num rs = (num xs + num pws - num ys) % num pws) w0 bs) :=
  (subw_any W b1 b2 b3 c1 c2 c3 xs ys ⟨l1, l2⟩ wx wy ⟨lx, ly⟩ (h.rows _ _ h1).1 (h.rows _ _ h2).1 (h.rows _ _ h3).1 (h.rows _ _ h1).2 (h.rows _ _ h2).2 (h.rows _ _ h3).2).mono fun _ _ hn => hn.held h

end Go.Proofs.Ytdbaaiplkngjkaa
