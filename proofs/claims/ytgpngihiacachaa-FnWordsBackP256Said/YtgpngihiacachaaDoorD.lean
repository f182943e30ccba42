/-
  The door from words to bytes, and the thin package's function over it: what a call does.
-/
import Derived.Test.YtgpngihiacachaaDoorC
import Derived.Test.YtgpngihiacachaaFiatD
import Derived.WalkKit
namespace Go.Proofs.Ytgpngihiacachaa
open Go Go.RowKit

set_option maxHeartbeats 1000000 in
theorem zz_to (w : World) (xs : List Nat) (lx : xs.length = 4) (wx : ∀ x ∈ xs, x < lim false) :
    Calls Try.prog 24 #[.agg (rowOf false xs)] w (BackB true (fun rs => (∀ i, i < 32 → rs.getD i 0 = num xs / 256 ^ i % 256) ∧ rs.length = 32) w) := by
  have hlx := Lib.hid lx
  clear lx
  go_enter Try.func24, Try.ntmps24
  go_wp2_with fail
  have h0 : (((w.alloc (.cells (rowOf false xs) 25)).alloc (.cells (rowOf true zerosY) 32)).alloc (.cells (rowOf true zerosY) 32)).heap[w.heap.size + 1 + 1]? = some (.cells (rowOf true zerosY) 32 (0, 0)) := ha_same _ _ (by simp)
  have h1 : (((w.alloc (.cells (rowOf false xs) 25)).alloc (.cells (rowOf true zerosY) 32)).alloc (.cells (rowOf true zerosY) 32)).heap[w.heap.size]? = some (.cells (rowOf false xs) 25 (0, 0)) := by rw [ha_lt _ _ (by simp; omega), ha_lt _ _ (by simp)]; exact ha_same _ _ rfl
  have h2 : (((w.alloc (.cells (rowOf false xs) 25)).alloc (.cells (rowOf true zerosY) 32)).alloc (.cells (rowOf true zerosY) 32)).heap[w.heap.size + 1]? = some (.cells (rowOf true zerosY) 32 (0, 0)) := by rw [ha_lt _ _ (by simp)]; exact ha_same _ _ (by simp)
  have hB : Below w.heap.size w (((w.alloc (.cells (rowOf false xs) 25)).alloc (.cells (rowOf true zerosY) 32)).alloc (.cells (rowOf true zerosY) 32)) := (((Below.refl w.heap.size w).alloc (Nat.le_refl _) _).alloc (by simp) _).alloc (by simp; omega) _
  have hsz : (((w.alloc (.cells (rowOf false xs) 25)).alloc (.cells (rowOf true zerosY) 32)).alloc (.cells (rowOf true zerosY) 32)).heap.size = w.heap.size + 3 := by simp
  refine (fiat_to _ _ _ zerosY xs (by omega) rfl hlx.out (by simp [zerosY, lim]) wx h0 h1).mono ?_
  generalize (((w.alloc (.cells (rowOf false xs) 25)).alloc (.cells (rowOf true zerosY) 32)).alloc (.cells (rowOf true zerosY) 32)) = W0 at h0 h1 h2 hB hsz ⊢
  rintro e W5 ⟨rfl, rs, hwd, ⟨hq, hlen⟩, hrow, hst⟩
  have hq' := Lib.hid hq
  have hlen' := Lib.hid hlen
  have hR5 : W5.heap[w.heap.size + 1]? = some (.cells (rowOf true zerosY) 32 (0, 0)) := by
    rw [hst.block _ (by omega) (by simp)]; exact h2
  have hB5 : Below w.heap.size w W5 := hst.below hB (by simp; omega) (by omega)
  clear hq hlen hst h0 h1 h2 hB hsz
  go_wp2_with (first
    | refine wpList_load_row rfl _ _ rfl _ rfl _ _ _ _ hrow Try.underlying32 rfl (by rw [infoQ, size_rowb, hlen'.out]) ?_
    | refine wpList_store_row rfl _ _ _ rfl _ _ rfl rfl _ _ hR5 (by rw [infoQ, size_rowb, hlen'.out]) (by rw [size_rowb, size_rowb, hlen'.out]; rfl) (one_rowb _ _) ?_)
  refine bodyPost_ret (results_cell_row rfl _ _ _ _ _ _ _ rfl (setRow_heap _ _ _ _ _ _ hR5) Try.underlying32 rfl (by rw [infoQ, size_rowb, hlen'.out])) rfl ?_
  exact ⟨rs, rfl, ⟨hq'.out, hlen'.out⟩, hwd, below_setRow hB5 (by omega) _⟩

set_option maxHeartbeats 1000000 in
theorem im_to (w : World) (xs : List Nat) (lx : xs.length = 4) (wx : ∀ x ∈ xs, x < lim false) :
    Calls Try.prog 17 #[.agg (rowOf false xs)] w (BackB true (fun rs => (∀ i, i < 32 → rs.getD i 0 = num xs / 256 ^ i % 256) ∧ rs.length = 32) w) := by
  have hlx := Lib.hid lx
  clear lx
  go_enter Try.func17, Try.ntmps17
  go_wp2_with (first
    | refine wpList_load_row rfl _ _ rfl _ rfl 25 (rowOf false xs) (0, 0) _ (by rw [ha_lt _ _ (by simp)]; exact ha_same _ _ rfl) Try.underlying25 rfl (by rw [infoR, size_rowb, hlx.out]) ?_)
  refine (zz_to _ xs hlx.out wx).mono ?_
  rintro e W1 ⟨rs, rfl, ⟨hq, hlen⟩, hwd, hB⟩
  have hq' := Lib.hid hq
  have hlen' := Lib.hid hlen
  have hR : W1.heap[w.heap.size + 1]? = some (.cells (rowOf true zerosY) 32 (0, 0)) := by rw [hB.block _ (by simp)]; exact ha_same _ _ (by simp)
  have hB5 : Below w.heap.size w W1 := (((Below.refl w.heap.size w).alloc (Nat.le_refl _) _).alloc (by simp) _).trans (hB.mono (by simp; omega))
  clear hq hlen hB
  go_wp2_with (first
      | refine wpList_store_row rfl _ _ _ rfl _ _ rfl rfl _ _ hR (by rw [infoQ, size_rowb, hlen'.out]) (by rw [size_rowb, size_rowb, hlen'.out]; rfl) (one_rowb _ _) ?_)
  refine bodyPost_ret (results_cell_row rfl _ _ _ _ _ _ _ rfl (setRow_heap _ _ _ _ _ _ hR) Try.underlying32 rfl (by rw [infoQ, size_rowb, hlen'.out])) rfl ?_
  exact ⟨rs, rfl, ⟨hq'.out, hlen'.out⟩, hwd, below_setRow hB5 (by omega) _⟩

end Go.Proofs.Ytgpngihiacachaa
