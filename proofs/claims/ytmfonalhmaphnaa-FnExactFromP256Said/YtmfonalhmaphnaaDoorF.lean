/-
  The door out of the Montgomery domain, and the thin package's function over it: what a call does.
-/
import Derived.Test.YtmfonalhmaphnaaStep
import Derived.Test.YtmfonalhmaphnaaFiatE
import Derived.WalkKit
import Derived.Outline
namespace Go.Proofs.Ytmfonalhmaphnaa
open Go Go.RowKit

/-- What a function of the field that hands back an element leaves. -/
def Back (Q : List Nat → Prop) (w : World) (e : Ending) (w' : World) : Prop :=
  ∃ rs, e = .returned (.agg (rowOf false rs)) ∧ Q rs ∧ Wd rs ∧ Below w.heap.size w w'

def zeros : List Nat := [0, 0, 0, 0]

theorem infoT : (Try.prog.info? 23).map (fun i => (i.size, i.zero)) = some (4, some (.agg (rowOf false zeros))) := by kernel_rfl
theorem infoM : (Try.prog.info? 31).map (fun i => (i.size, i.zero)) = some (4, some (.agg (rowOf false zeros))) := by kernel_rfl

theorem infoR : (Try.prog.info? 23).map (fun i => i.size) = some 4 := by kernel_rfl
theorem infoS : (Try.prog.info? 31).map (fun i => i.size) = some 4 := by kernel_rfl

theorem one_row (l : List Nat) : (rowOf false l).all (·.oneCell') = true := by
  rw [Array.all_eq_true_iff_forall_mem]
  intro v hv
  simp [rowOf] at hv
  obtain ⟨x, _, rfl⟩ := hv
  rfl
theorem size_row (l : List Nat) : (rowOf false l).size = l.length := by simp [rowOf]
theorem wd_zeros : Wd zeros := Wd.of_mem (by simp [zeros])

theorem below_setRow {B : Nat} {a w : World} (h : Below B a w) {g : Nat} (hg : B ≤ g) (cs : Array Value) : Below B a (w.setRow g cs) :=
  ⟨h.os, h.tape, h.output, by simpa using h.size, fun k hk => (setRow_other w g k cs (by omega)).trans (h.block k hk)⟩

theorem row_size {l : List Nat} (h : l.length = 4) : some 4 = some (rowOf false l).size := by rw [size_row, h]

theorem infoN : (Try.prog.info? 32).map (fun i => i.size) = some 4 := by kernel_rfl

set_option maxHeartbeats 1000000 in
theorem zz_out (w : World) (xs : List Nat) (lx : xs.length = 4) (hx : num xs < num pws) (wx : Wd xs) :
    Calls Try.prog 9 #[.agg (rowOf false xs)] w (Back (fun rs => num rs < num pws ∧ pw 4 * num rs % num pws = num xs ∧ rs.length = 4) w) := by
  have hlx := Lib.hid lx
  have hhx := Lib.hid hx
  clear lx hx
  go_enter Try.func9, Try.ntmps9
  go_wp2_with (first
    | refine wpList_load_row rfl _ _ rfl _ rfl 23 (rowOf false xs) (0, 0) _ (by rw [ha_lt _ _ (by simp)]; exact ha_same _ _ rfl) Try.underlying23 rfl (by rw [infoR, size_row, hlx.out]) ?_
    | refine wpList_store_row rfl _ _ _ rfl _ _ rfl rfl 31 (rowOf false zeros) (ha_same _ _ (by simp)) (by rw [infoS, size_row, hlx.out]) (by rw [size_row, size_row, hlx.out]; rfl) (one_row _) ?_)
  have h0 : (((((w.alloc (.cells (rowOf false xs) 23)).alloc (.cells (rowOf false zeros) 23)).alloc (.cells (rowOf false zeros) 31)).setRow (w.heap.size + 1 + 1) (rowOf false xs)).alloc (.cells (rowOf false zeros) 32)).heap[w.heap.size + 1 + 1 + 1]? = some (.cells (rowOf false zeros) 32 (0, 0)) := ha_same _ _ (by simp)
  have h1 : (((((w.alloc (.cells (rowOf false xs) 23)).alloc (.cells (rowOf false zeros) 23)).alloc (.cells (rowOf false zeros) 31)).setRow (w.heap.size + 1 + 1) (rowOf false xs)).alloc (.cells (rowOf false zeros) 32)).heap[w.heap.size + 1 + 1]? = some (.cells (rowOf false xs) 31 (0, 0)) := by
    rw [ha_lt _ _ (by simp)]; exact setRow_heap _ _ (rowOf false zeros) _ _ _ (ha_same _ _ (by simp))
  have h2 : (((((w.alloc (.cells (rowOf false xs) 23)).alloc (.cells (rowOf false zeros) 23)).alloc (.cells (rowOf false zeros) 31)).setRow (w.heap.size + 1 + 1) (rowOf false xs)).alloc (.cells (rowOf false zeros) 32)).heap[w.heap.size + 1]? = some (.cells (rowOf false zeros) 23 (0, 0)) := by
    rw [ha_lt _ _ (by simp), setRow_other _ _ _ _ (by omega), ha_lt _ _ (by simp)]; exact ha_same _ _ (by simp)
  have hB : Below w.heap.size w (((((w.alloc (.cells (rowOf false xs) 23)).alloc (.cells (rowOf false zeros) 23)).alloc (.cells (rowOf false zeros) 31)).setRow (w.heap.size + 1 + 1) (rowOf false xs)).alloc (.cells (rowOf false zeros) 32)) := (below_setRow ((((Below.refl w.heap.size w).alloc (Nat.le_refl _) _).alloc (by simp) _).alloc (by simp; omega) _) (by omega) _).alloc (by simp; omega) _
  have hsz : (((((w.alloc (.cells (rowOf false xs) 23)).alloc (.cells (rowOf false zeros) 23)).alloc (.cells (rowOf false zeros) 31)).setRow (w.heap.size + 1 + 1) (rowOf false xs)).alloc (.cells (rowOf false zeros) 32)).heap.size = w.heap.size + 4 := by simp
  refine (fiat_out _ _ _ zeros xs (by omega) rfl hlx.out (by simp [zeros, lim]) (wd_fits wx) hhx.out h0 h1).mono ?_
  generalize (((((w.alloc (.cells (rowOf false xs) 23)).alloc (.cells (rowOf false zeros) 23)).alloc (.cells (rowOf false zeros) 31)).setRow (w.heap.size + 1 + 1) (rowOf false xs)).alloc (.cells (rowOf false zeros) 32)) = W0 at h0 h1 h2 hB hsz ⊢
  rintro e W5 ⟨rfl, rs, hwd, ⟨hq1, hq2, hlen⟩, hrow, hst⟩
  have hq' := Lib.hid (And.intro hq1 hq2)
  have hlen' := Lib.hid hlen
  have hR5 : W5.heap[w.heap.size + 1]? = some (.cells (rowOf false zeros) 23 (0, 0)) := by
    rw [hst.block _ (by omega) (by simp)]; exact h2
  have hB5 : Below w.heap.size w W5 := hst.below hB (by simp; omega) (by omega)
  clear hq1 hq2 hlen hst h0 h1 h2 hB hsz
  go_wp2_with (first
    | refine wpList_load_row rfl _ _ rfl _ rfl _ _ _ _ hrow Try.underlying32 rfl (by rw [infoN, size_row, hlen'.out]) ?_
    | refine wpList_store_row rfl _ _ _ rfl _ _ rfl rfl _ _ hR5 (by rw [infoR, size_row, hlen'.out]) (by rw [size_row, size_row, hlen'.out]; rfl) (one_row _) ?_)
  refine bodyPost_ret (results_cell_row rfl _ _ _ _ _ _ _ rfl (setRow_heap _ _ _ _ _ _ hR5) Try.underlying23 rfl (by rw [infoR, size_row, hlen'.out])) rfl ?_
  exact ⟨rs, rfl, ⟨hq'.out.1, hq'.out.2, hlen'.out⟩, Wd.of_mem hwd, below_setRow hB5 (by omega) _⟩

set_option maxHeartbeats 1000000 in
theorem im_out (w : World) (xs : List Nat) (lx : xs.length = 4) (hx : num xs < num pws) (wx : Wd xs) :
    Calls Try.prog 6 #[.agg (rowOf false xs)] w (Back (fun rs => num rs < num pws ∧ pw 4 * num rs % num pws = num xs ∧ rs.length = 4) w) := by
  have hlx := Lib.hid lx
  have hhx := Lib.hid hx
  clear lx hx
  go_enter Try.func6, Try.ntmps6
  go_wp2_with (first
    | refine wpList_load_row rfl _ _ rfl _ rfl 23 (rowOf false xs) (0, 0) _ (by rw [ha_lt _ _ (by simp)]; exact ha_same _ _ rfl) Try.underlying23 rfl (by rw [infoR, size_row, hlx.out]) ?_)
  refine (zz_out _ xs hlx.out hhx.out wx).mono ?_
  rintro e W1 ⟨rs, rfl, ⟨hq1, hq2, hlen⟩, hwd, hB⟩
  have hq' := Lib.hid (And.intro hq1 hq2)
  have hlen' := Lib.hid hlen
  have hR : W1.heap[w.heap.size + 1]? = some (.cells (rowOf false zeros) 23 (0, 0)) := by rw [hB.block _ (by simp)]; exact ha_same _ _ (by simp)
  have hB5 : Below w.heap.size w W1 := (((Below.refl w.heap.size w).alloc (Nat.le_refl _) _).alloc (by simp) _).trans (hB.mono (by simp; omega))
  clear hq1 hq2 hlen hB
  go_wp2_with (first
      | refine wpList_store_row rfl _ _ _ rfl _ _ rfl rfl _ _ hR (by rw [infoR, size_row, hlen'.out]) (by rw [size_row, size_row, hlen'.out]; rfl) (one_row _) ?_)
  refine bodyPost_ret (results_cell_row rfl _ _ _ _ _ _ _ rfl (setRow_heap _ _ _ _ _ _ hR) Try.underlying23 rfl (by rw [infoR, size_row, hlen'.out])) rfl ?_
  exact ⟨rs, rfl, ⟨hq'.out.1, hq'.out.2, hlen'.out⟩, hwd, below_setRow hB5 (by omega) _⟩

end Go.Proofs.Ytmfonalhmaphnaa
