/-
  The reference's prime and its difference modulo the prime: what a call does.
-/
import Derived.Test.YtmfonalhmaphnaaSpecC
import Derived.Test.YtmfonalhmaphnaaFiatB
namespace Go.Proofs.Ytmfonalhmaphnaa
open Go Go.RowKit

/-- A row of words that the call made, handed back as a slice. -/
def NewRow (Q : List Nat → Prop) (w : World) (e : Ending) (w' : World) : Prop :=
  ∃ B rs, e = .returned (.slice (some ⟨B, 0, none⟩) 4 4) ∧ w.heap.size ≤ B ∧ w'.heap[B]? = some (.cells (rowOf false rs) 22 (0, 0)) ∧ Wd rs ∧ rs.length = 4 ∧ Q rs ∧ Below w.heap.size w w'

theorem lt_of_heap {w : World} {B : Nat} {o : Obj} (h : w.heap[B]? = some o) : B < w.heap.size := by
  rcases Nat.lt_or_ge B w.heap.size with h' | h'
  · exact h'
  · rw [Array.getElem?_eq_none h'] at h; cases h

theorem Ws.below {w w' : World} {n B : Nat} {zs : List Nat} (h : Ws w B zs) (hb : Below n w w') (hB : B < n) : Ws w' B zs := fun i hi => by
  rw [hb.cell (p := ⟨B, i, none⟩) hB]; exact h i hi

theorem prime_row (w : World) : (w.alloc (.cells #[.int .u64 ((pws.getD 0 0 : Nat) : Int), .int .u64 ((pws.getD 1 0 : Nat) : Int), .int .u64 ((pws.getD 2 0 : Nat) : Int), .int .u64 ((pws.getD 3 0 : Nat) : Int)] 22)).heap[w.heap.size]? = some (.cells (rowOf false pws) 22 (0, 0)) := ha_same _ _ rfl

set_option maxHeartbeats 400000 in
theorem prime_any (w : World) : Calls Try.prog 5 #[] w (NewRow (fun rs => rs = pws) w) := by
  go_enter Try.func5, Try.ntmps5
  go_wp2
  go_ret
  exact ⟨w.heap.size, pws, rfl, Nat.le_refl _, prime_row w, pws_wd, rfl, rfl, (Below.refl _ _).alloc (Nat.le_refl _) _⟩

end Go.Proofs.Ytmfonalhmaphnaa
