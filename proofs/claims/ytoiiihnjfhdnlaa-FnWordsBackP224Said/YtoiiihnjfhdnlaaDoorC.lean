/-
  The door from bytes to words, and the thin package's function over it: what a call does.
-/
import Derived.Test.YtoiiihnjfhdnlaaDoorB
import Derived.Test.YtoiiihnjfhdnlaaFiatC
import Derived.WalkKit
namespace Go.Proofs.Ytoiiihnjfhdnlaa
open Go Go.RowKit

def zerosY : List Nat := [0, 0, 0, 0, 0, 0, 0, 0, 0, 0, 0, 0, 0, 0, 0, 0, 0, 0, 0, 0, 0, 0, 0, 0, 0, 0, 0, 0]
theorem infoQ : (Try.prog.info? 32).map (fun i => i.size) = some 28 := by kernel_rfl
theorem one_rowb (b : Bool) (l : List Nat) : (rowOf b l).all (·.oneCell') = true := by
  rw [Array.all_eq_true_iff_forall_mem]
  intro v hv
  simp [rowOf] at hv
  obtain ⟨x, _, rfl⟩ := hv
  cases b <;> rfl
theorem size_rowb (b : Bool) (l : List Nat) : (rowOf b l).size = l.length := by simp [rowOf]

/-- What a function hands back: a row of words (false) or of bytes (true). -/
def BackB (b : Bool) (Q : List Nat → Prop) (w : World) (e : Ending) (w' : World) : Prop :=
  ∃ rs, e = .returned (.agg (rowOf b rs)) ∧ Q rs ∧ (∀ x ∈ rs, x < lim b) ∧ Below w.heap.size w w'

set_option maxHeartbeats 1000000 in
theorem zz_from (w : World) (xs : List Nat) (lx : xs.length = 28) (wx : ∀ x ∈ xs, x < lim true) :
    Calls Try.prog 22 #[.agg (rowOf true xs)] w (BackB false (fun rs => num rs = numY xs ∧ rs.length = 4) w) := by
  have hlx := Lib.hid lx
  clear lx
  go_enter Try.func22, Try.ntmps22
  go_wp2_with fail
  have h0 : (((w.alloc (.cells (rowOf true xs) 32)).alloc (.cells (rowOf false zeros) 25)).alloc (.cells (rowOf false zeros) 25)).heap[w.heap.size + 1 + 1]? = some (.cells (rowOf false zeros) 25 (0, 0)) := ha_same _ _ (by simp)
  have h1 : (((w.alloc (.cells (rowOf true xs) 32)).alloc (.cells (rowOf false zeros) 25)).alloc (.cells (rowOf false zeros) 25)).heap[w.heap.size]? = some (.cells (rowOf true xs) 32 (0, 0)) := by rw [ha_lt _ _ (by simp; omega), ha_lt _ _ (by simp)]; exact ha_same _ _ rfl
  have h2 : (((w.alloc (.cells (rowOf true xs) 32)).alloc (.cells (rowOf false zeros) 25)).alloc (.cells (rowOf false zeros) 25)).heap[w.heap.size + 1]? = some (.cells (rowOf false zeros) 25 (0, 0)) := by rw [ha_lt _ _ (by simp)]; exact ha_same _ _ (by simp)
  have hB : Below w.heap.size w (((w.alloc (.cells (rowOf true xs) 32)).alloc (.cells (rowOf false zeros) 25)).alloc (.cells (rowOf false zeros) 25)) := (((Below.refl w.heap.size w).alloc (Nat.le_refl _) _).alloc (by simp) _).alloc (by simp; omega) _
  have hsz : (((w.alloc (.cells (rowOf true xs) 32)).alloc (.cells (rowOf false zeros) 25)).alloc (.cells (rowOf false zeros) 25)).heap.size = w.heap.size + 3 := by simp
  refine (fiat_from _ _ _ zeros xs (by omega) rfl hlx.out (by simp [zeros, lim]) wx h0 h1).mono ?_
  generalize (((w.alloc (.cells (rowOf true xs) 32)).alloc (.cells (rowOf false zeros) 25)).alloc (.cells (rowOf false zeros) 25)) = W0 at h0 h1 h2 hB hsz ⊢
  rintro e W5 ⟨rfl, rs, hwd, ⟨hq, hlen⟩, hrow, hst⟩
  have hq' := Lib.hid hq
  have hlen' := Lib.hid hlen
  have hR5 : W5.heap[w.heap.size + 1]? = some (.cells (rowOf false zeros) 25 (0, 0)) := by
    rw [hst.block _ (by omega) (by simp)]; exact h2
  have hB5 : Below w.heap.size w W5 := hst.below hB (by simp; omega) (by omega)
  clear hq hlen hst h0 h1 h2 hB hsz
  go_wp2_with (first
    | refine wpList_load_row rfl _ _ rfl _ rfl _ _ _ _ hrow Try.underlying25 rfl (by rw [infoR, size_rowb, hlen'.out]) ?_
    | refine wpList_store_row rfl _ _ _ rfl _ _ rfl rfl _ _ hR5 (by rw [infoR, size_rowb, hlen'.out]) (by rw [size_rowb, size_rowb, hlen'.out]; rfl) (one_rowb _ _) ?_)
  refine bodyPost_ret (results_cell_row rfl _ _ _ _ _ _ _ rfl (setRow_heap _ _ _ _ _ _ hR5) Try.underlying25 rfl (by rw [infoR, size_rowb, hlen'.out])) rfl ?_
  exact ⟨rs, rfl, ⟨hq'.out, hlen'.out⟩, hwd, below_setRow hB5 (by omega) _⟩

set_option maxHeartbeats 1000000 in
theorem im_from (w : World) (xs : List Nat) (lx : xs.length = 28) (wx : ∀ x ∈ xs, x < lim true) :
    Calls Try.prog 15 #[.agg (rowOf true xs)] w (BackB false (fun rs => num rs = numY xs ∧ rs.length = 4) w) := by
  have hlx := Lib.hid lx
  clear lx
  go_enter Try.func15, Try.ntmps15
  go_wp2_with (first
    | refine wpList_load_row rfl _ _ rfl _ rfl 32 (rowOf true xs) (0, 0) _ (by rw [ha_lt _ _ (by simp)]; exact ha_same _ _ rfl) Try.underlying32 rfl (by rw [infoQ, size_rowb, hlx.out]) ?_)
  refine (zz_from _ xs hlx.out wx).mono ?_
  rintro e W1 ⟨rs, rfl, ⟨hq, hlen⟩, hwd, hB⟩
  have hq' := Lib.hid hq
  have hlen' := Lib.hid hlen
  have hR : W1.heap[w.heap.size + 1]? = some (.cells (rowOf false zeros) 25 (0, 0)) := by rw [hB.block _ (by simp)]; exact ha_same _ _ (by simp)
  have hB5 : Below w.heap.size w W1 := (((Below.refl w.heap.size w).alloc (Nat.le_refl _) _).alloc (by simp) _).trans (hB.mono (by simp; omega))
  clear hq hlen hB
  go_wp2_with (first
      | refine wpList_store_row rfl _ _ _ rfl _ _ rfl rfl _ _ hR (by rw [infoR, size_rowb, hlen'.out]) (by rw [size_rowb, size_rowb, hlen'.out]; rfl) (one_rowb _ _) ?_)
  refine bodyPost_ret (results_cell_row rfl _ _ _ _ _ _ _ rfl (setRow_heap _ _ _ _ _ _ hR) Try.underlying25 rfl (by rw [infoR, size_rowb, hlen'.out])) rfl ?_
  exact ⟨rs, rfl, ⟨hq'.out, hlen'.out⟩, hwd, below_setRow hB5 (by omega) _⟩

end Go.Proofs.Ytoiiihnjfhdnlaa
