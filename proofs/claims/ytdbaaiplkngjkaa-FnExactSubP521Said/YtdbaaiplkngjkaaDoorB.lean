/-
  The doors of the field's sum and difference, and the thin package's functions over them: what a call does.
-/
import Derived.Test.YtdbaaiplkngjkaaStep
import Derived.WalkKit
import Derived.Outline
namespace Go.Proofs.Ytdbaaiplkngjkaa
open Go Go.RowKit

/-- What a function of the field that hands back an element leaves. -/
def Back (Q : List Nat → Prop) (w : World) (e : Ending) (w' : World) : Prop :=
  ∃ rs, e = .returned (.agg (rowOf false rs)) ∧ Q rs ∧ Wd rs ∧ Below w.heap.size w w'

def zeros : List Nat := [0, 0, 0, 0, 0, 0, 0, 0, 0]

theorem infoT : (Try.prog.info? 25).map (fun i => (i.size, i.zero)) = some (9, some (.agg (rowOf false zeros))) := by kernel_rfl
theorem infoM : (Try.prog.info? 38).map (fun i => (i.size, i.zero)) = some (9, some (.agg (rowOf false zeros))) := by kernel_rfl

theorem infoR : (Try.prog.info? 25).map (fun i => i.size) = some 9 := by kernel_rfl
theorem infoS : (Try.prog.info? 38).map (fun i => i.size) = some 9 := by kernel_rfl

theorem one_row (l : List Nat) : (rowOf false l).all (·.oneCell') = true := by
  rw [Array.all_eq_true_iff_forall_mem]
  intro v hv
  simp [rowOf] at hv
  obtain ⟨x, _, rfl⟩ := hv
  rfl
theorem size_row (l : List Nat) : (rowOf false l).size = l.length := by simp [rowOf]
theorem wd_zeros : Wd zeros := Wd.of_mem (by simp [zeros])

theorem below_setRow {B : Nat} {a w : World} (h : Below B a w) {g : Nat} (hg : B ≤ g) (cs : Array Value) : Below B a (w.setRow g cs) :=
  ⟨h.os, h.tape, h.output, by simpa using h.size, fun k hk => (setRow_other w g k cs (by omega)).trans (h.block k hk)⟩

theorem row_size {l : List Nat} (h : l.length = 9) : some 9 = some (rowOf false l).size := by rw [size_row, h]

set_option maxHeartbeats 1000000 in
theorem zz_add (w : World) (xs ys : List Nat) (lx : xs.length = 9) (ly : ys.length = 9) (hx : num xs < num pws) (hy : num ys < num pws) (wx : Wd xs) (wy : Wd ys) :
    Calls Try.prog 17 #[.agg (rowOf false xs), .agg (rowOf false ys)] w (Back (fun rs => num rs = (num xs + num ys) % num pws ∧ rs.length = 9) w) := by
  have hlx := Lib.hid lx
  have hly := Lib.hid ly
  have hhx := Lib.hid hx
  have hhy := Lib.hid hy
  clear lx ly hx hy
  obtain ⟨iT, hiT, hsT, hzT⟩ := info_of infoT
  obtain ⟨iM, hiM, hsM, hzM⟩ := info_of infoM
  have HiT := Lib.hid hiT
  have HiM := Lib.hid hiM
  have HzT := Lib.hid hzT
  have HzM := Lib.hid hzM
  clear hiT hiM hzT hzM
  go_enter Try.func17, Try.ntmps17
  go_wp2_with fail
  have hS : Hold w [(w.heap.size + 1, ys), (w.heap.size, xs)] (((w.alloc (.cells (rowOf false xs) 25)).alloc (.cells (rowOf false ys) 25)).alloc (.cells (rowOf false zeros) 25)).drew :=
    ((((Hold.refl w).box xs 25 rfl).box ys 25 (by simp)).later ((Below.refl _ _).alloc (Nat.le_refl _) _)).drew
  have hres : (((w.alloc (.cells (rowOf false xs) 25)).alloc (.cells (rowOf false ys) 25)).alloc (.cells (rowOf false zeros) 25)).drew.heap[w.heap.size + 1 + 1]? = some (.cells (rowOf false zeros) 25 (0, 0)) := by
    rw [hd_eq]; exact ha_same _ _ (by simp)
  refine region_held (S := Hold w [(w.heap.size + 1, ys), (w.heap.size, xs)]) mixed ?_
  change wpAnyH _ _ _ _ _ _ _ _ (((w.alloc (.cells (rowOf false xs) 25)).alloc (.cells (rowOf false ys) 25)).alloc (.cells (rowOf false zeros) 25)).drew
  have hsz : (((w.alloc (.cells (rowOf false xs) 25)).alloc (.cells (rowOf false ys) 25)).alloc (.cells (rowOf false zeros) 25)).drew.heap.size = w.heap.size + 3 := by simp
  generalize (((w.alloc (.cells (rowOf false xs) 25)).alloc (.cells (rowOf false ys) 25)).alloc (.cells (rowOf false zeros) 25)).drew = W at hS hres hsz ⊢
  refine wpAnyH_take (i := 0) (v := .agg (rowOf false xs)) rfl (by kernel_rfl) (by kernel_rfl) (by kernel_rfl) (fun _ _ _ h => h) (y_load (b := w.heap.size) rfl rfl rfl Try.underlying25 HiT.out hsT (by simp) hlx.out) hS ?_
  refine wpAnyH_take (i := 1) (v := .agg (rowOf false ys)) rfl (by kernel_rfl) (by kernel_rfl) (by kernel_rfl) (fun _ _ _ h => h) (y_load (b := w.heap.size + 1) rfl rfl rfl Try.underlying25 HiT.out hsT (by simp) hly.out) hS ?_
  have hS1 := hS.later ((Below.refl _ _).alloc (Nat.le_refl _) (.cells (rowOf false zeros) 38))
  have hS2 := hS1.later ((Below.refl _ _).alloc (Nat.le_refl _) (.cells (rowOf false zeros) 38))
  have g0 : ((W.alloc (.cells (rowOf false zeros) 38)).alloc (.cells (rowOf false zeros) 38)).heap[W.heap.size]? = some (.cells (rowOf false zeros) 38 (0, 0)) := by rw [ha_lt _ _ (by simp)]; exact ha_same _ _ rfl
  have g1 : ((W.alloc (.cells (rowOf false zeros) 38)).alloc (.cells (rowOf false zeros) 38)).heap[(W.alloc (.cells (rowOf false zeros) 38)).heap.size]? = some (.cells (rowOf false zeros) 38 (0, 0)) := ha_same _ _ rfl
  have g2 : ((W.alloc (.cells (rowOf false zeros) 38)).alloc (.cells (rowOf false zeros) 38)).heap[w.heap.size + 1 + 1]? = some (.cells (rowOf false zeros) 25 (0, 0)) := by rw [ha_lt _ _ (by simp; omega), ha_lt _ _ (by omega)]; exact hres
  have s1 : (W.alloc (.cells (rowOf false zeros) 38)).heap.size = W.heap.size + 1 := by simp
  have s2 : ((W.alloc (.cells (rowOf false zeros) 38)).alloc (.cells (rowOf false zeros) 38)).heap.size = W.heap.size + 2 := by simp
  refine wpAnyH_all (rs := [2, 3]) (by kernel_rfl) (by simp) ?_
  intro i hi
  simp only [List.mem_cons, List.not_mem_nil, or_false] at hi
  rcases hi with rfl | rfl
  · refine o_value rfl rfl (run_alloc rfl HiM.out HzM.out) ⟨hS1, ?_⟩
    refine wpAnyH_all (rs := [3]) (by kernel_rfl) (by simp) ?_
    intro i hi
    obtain rfl : i = 3 := by simpa using hi
    refine o_value rfl rfl (run_alloc rfl HiM.out HzM.out) ⟨hS2, ?_⟩
    generalize (W.alloc (.cells (rowOf false zeros) 38)).alloc (.cells (rowOf false zeros) 38) = W2 at hS2 g0 g1 g2 s2 ⊢
    generalize (W.alloc (.cells (rowOf false zeros) 38)).heap.size = ky at g1 s1 ⊢
    generalize W.heap.size = kx at g0 s1 s2 hsz ⊢
    clear hS1 hS hres
    refine wpAnyH_all (rs := [4]) (by kernel_rfl) (by simp) ?_
    intro i hi
    obtain rfl : i = 4 := by simpa using hi
    refine O_store (g := kx) (cells := rowOf false xs) rfl rfl rfl rfl rfl g0 (by rw [infoS, size_row, hlx.out]) (by rw [size_row, size_row, hlx.out]; rfl) (one_row _) ⟨hS2.setRow _ (by omega) (by simp; omega), ?_⟩
    refine wpAnyH_all (rs := [5]) (by kernel_rfl) (by simp) ?_
    intro i hi
    obtain rfl : i = 5 := by simpa using hi
    refine O_store (g := ky) (cells := rowOf false ys) rfl rfl rfl rfl rfl (by rw [setRow_other _ _ _ _ (by omega)]; exact g1) (by rw [infoS, size_row, hly.out]) (by rw [size_row, size_row, hly.out]; rfl) (one_row _) ⟨(hS2.setRow _ (by omega) (by simp; omega)).setRow _ (by omega) (by simp; omega), ?_⟩
    refine wpAnyH_done (by kernel_rfl) ?_ 0
    have hX : ((W2.setRow kx (rowOf false xs)).setRow ky (rowOf false ys)).heap[kx]? = some (.cells (rowOf false xs) 38 (0, 0)) := by rw [setRow_other _ _ _ _ (by omega)]; exact setRow_heap _ _ _ _ _ _ g0
    have hY : ((W2.setRow kx (rowOf false xs)).setRow ky (rowOf false ys)).heap[ky]? = some (.cells (rowOf false ys) 38 (0, 0)) := setRow_heap _ _ (rowOf false zeros) _ _ _ (by rw [setRow_other _ _ _ _ (by omega)]; exact g1)
    have hR : ((W2.setRow kx (rowOf false xs)).setRow ky (rowOf false ys)).heap[w.heap.size + 1 + 1]? = some (.cells (rowOf false zeros) 25 (0, 0)) := by rw [setRow_other _ _ _ _ (by omega), setRow_other _ _ _ _ (by omega)]; exact g2
    have hB : Below w.heap.size w ((W2.setRow kx (rowOf false xs)).setRow ky (rowOf false ys)) := below_setRow (below_setRow hS2.below (by omega) _) (by omega) _
    have hZ := Lib.hid (show ((W2.setRow kx (rowOf false xs)).setRow ky (rowOf false ys)).heap.size = w.heap.size + 5 by simp [s2]; omega)
    have hkx := Lib.hid (show w.heap.size + 3 ≤ kx ∧ kx < w.heap.size + 5 ∧ w.heap.size + 3 ≤ ky ∧ ky < w.heap.size + 5 ∧ kx ≠ ky by omega)
    generalize (W2.setRow kx (rowOf false xs)).setRow ky (rowOf false ys) = W4 at hX hY hR hB hZ ⊢
    clear g0 g1 g2 hS2 s2 hsz s1
    go_wp2_with fail
    have hZ := hZ.out
    have hkx := hkx.out
    refine (fiat_add (W4.alloc (.cells (rowOf false zeros) 38)) _ _ _ zeros xs ys (by simp; omega) rfl hlx.out hly.out wd_zeros wx wy hhx.out hhy.out (ha_same _ _ rfl) (by rw [ha_lt _ _ (by omega)]; exact hX) (by rw [ha_lt _ _ (by omega)]; exact hY)).mono ?_
    rintro e W5 ⟨rfl, rs, hwd, ⟨hq, hlen⟩, hrow, hst⟩
    have hq' := Lib.hid hq
    have hlen' := Lib.hid hlen
    have hR5 : W5.heap[w.heap.size + 1 + 1]? = some (.cells (rowOf false zeros) 25 (0, 0)) := by
      rw [hst.block _ (by simp; omega) (by simp; omega), ha_lt _ _ (by omega)]; exact hR
    have hB5 : Below w.heap.size w W5 := hst.below (hB.alloc (by omega) _) (by simp; omega) (by simp; omega)
    clear hq hlen hst hX hY hR hB hZ hkx
    go_wp2_with (first
      | refine wpList_load_row rfl _ _ rfl _ rfl _ _ _ _ hrow Try.underlying38 rfl (by rw [infoS, size_row, hlen'.out]) ?_
      | refine wpList_store_row rfl _ _ _ rfl _ _ rfl rfl _ _ hR5 (by rw [infoR, size_row, hlen'.out]) (by rw [size_row, size_row, hlen'.out]; rfl) (one_row _) ?_)
    refine bodyPost_ret (results_cell_row rfl _ _ _ _ _ _ _ rfl (setRow_heap _ _ _ _ _ _ hR5) Try.underlying25 rfl (by rw [infoR, size_row, hlen'.out])) rfl ?_
    exact ⟨rs, rfl, ⟨hq'.out, hlen'.out⟩, hwd, below_setRow hB5 (by omega) _⟩
  · refine o_value rfl rfl (run_alloc rfl HiM.out HzM.out) ⟨hS1, ?_⟩
    refine wpAnyH_all (rs := [2]) (by kernel_rfl) (by simp) ?_
    intro i hi
    obtain rfl : i = 2 := by simpa using hi
    refine o_value rfl rfl (run_alloc rfl HiM.out HzM.out) ⟨hS2, ?_⟩
    generalize (W.alloc (.cells (rowOf false zeros) 38)).alloc (.cells (rowOf false zeros) 38) = W2 at hS2 g0 g1 g2 s2 ⊢
    generalize (W.alloc (.cells (rowOf false zeros) 38)).heap.size = kx at g1 s1 ⊢
    generalize W.heap.size = ky at g0 s1 s2 hsz ⊢
    clear hS1 hS hres
    refine wpAnyH_all (rs := [4]) (by kernel_rfl) (by simp) ?_
    intro i hi
    obtain rfl : i = 4 := by simpa using hi
    refine O_store (g := kx) (cells := rowOf false xs) rfl rfl rfl rfl rfl g1 (by rw [infoS, size_row, hlx.out]) (by rw [size_row, size_row, hlx.out]; rfl) (one_row _) ⟨hS2.setRow _ (by omega) (by simp; omega), ?_⟩
    refine wpAnyH_all (rs := [5]) (by kernel_rfl) (by simp) ?_
    intro i hi
    obtain rfl : i = 5 := by simpa using hi
    refine O_store (g := ky) (cells := rowOf false ys) rfl rfl rfl rfl rfl (by rw [setRow_other _ _ _ _ (by omega)]; exact g0) (by rw [infoS, size_row, hly.out]) (by rw [size_row, size_row, hly.out]; rfl) (one_row _) ⟨(hS2.setRow _ (by omega) (by simp; omega)).setRow _ (by omega) (by simp; omega), ?_⟩
    refine wpAnyH_done (by kernel_rfl) ?_ 0
    have hX : ((W2.setRow kx (rowOf false xs)).setRow ky (rowOf false ys)).heap[kx]? = some (.cells (rowOf false xs) 38 (0, 0)) := by rw [setRow_other _ _ _ _ (by omega)]; exact setRow_heap _ _ _ _ _ _ g1
    have hY : ((W2.setRow kx (rowOf false xs)).setRow ky (rowOf false ys)).heap[ky]? = some (.cells (rowOf false ys) 38 (0, 0)) := setRow_heap _ _ (rowOf false zeros) _ _ _ (by rw [setRow_other _ _ _ _ (by omega)]; exact g0)
    have hR : ((W2.setRow kx (rowOf false xs)).setRow ky (rowOf false ys)).heap[w.heap.size + 1 + 1]? = some (.cells (rowOf false zeros) 25 (0, 0)) := by rw [setRow_other _ _ _ _ (by omega), setRow_other _ _ _ _ (by omega)]; exact g2
    have hB : Below w.heap.size w ((W2.setRow kx (rowOf false xs)).setRow ky (rowOf false ys)) := below_setRow (below_setRow hS2.below (by omega) _) (by omega) _
    have hZ := Lib.hid (show ((W2.setRow kx (rowOf false xs)).setRow ky (rowOf false ys)).heap.size = w.heap.size + 5 by simp [s2]; omega)
    have hkx := Lib.hid (show w.heap.size + 3 ≤ kx ∧ kx < w.heap.size + 5 ∧ w.heap.size + 3 ≤ ky ∧ ky < w.heap.size + 5 ∧ kx ≠ ky by omega)
    generalize (W2.setRow kx (rowOf false xs)).setRow ky (rowOf false ys) = W4 at hX hY hR hB hZ ⊢
    clear g0 g1 g2 hS2 s2 hsz s1
    go_wp2_with fail
    have hZ := hZ.out
    have hkx := hkx.out
    refine (fiat_add (W4.alloc (.cells (rowOf false zeros) 38)) _ _ _ zeros xs ys (by simp; omega) rfl hlx.out hly.out wd_zeros wx wy hhx.out hhy.out (ha_same _ _ rfl) (by rw [ha_lt _ _ (by omega)]; exact hX) (by rw [ha_lt _ _ (by omega)]; exact hY)).mono ?_
    rintro e W5 ⟨rfl, rs, hwd, ⟨hq, hlen⟩, hrow, hst⟩
    have hq' := Lib.hid hq
    have hlen' := Lib.hid hlen
    have hR5 : W5.heap[w.heap.size + 1 + 1]? = some (.cells (rowOf false zeros) 25 (0, 0)) := by
      rw [hst.block _ (by simp; omega) (by simp; omega), ha_lt _ _ (by omega)]; exact hR
    have hB5 : Below w.heap.size w W5 := hst.below (hB.alloc (by omega) _) (by simp; omega) (by simp; omega)
    clear hq hlen hst hX hY hR hB hZ hkx
    go_wp2_with (first
      | refine wpList_load_row rfl _ _ rfl _ rfl _ _ _ _ hrow Try.underlying38 rfl (by rw [infoS, size_row, hlen'.out]) ?_
      | refine wpList_store_row rfl _ _ _ rfl _ _ rfl rfl _ _ hR5 (by rw [infoR, size_row, hlen'.out]) (by rw [size_row, size_row, hlen'.out]; rfl) (one_row _) ?_)
    refine bodyPost_ret (results_cell_row rfl _ _ _ _ _ _ _ rfl (setRow_heap _ _ _ _ _ _ hR5) Try.underlying25 rfl (by rw [infoR, size_row, hlen'.out])) rfl ?_
    exact ⟨rs, rfl, ⟨hq'.out, hlen'.out⟩, hwd, below_setRow hB5 (by omega) _⟩

set_option maxHeartbeats 1000000 in
theorem im_add (w : World) (xs ys : List Nat) (lx : xs.length = 9) (ly : ys.length = 9) (hx : num xs < num pws) (hy : num ys < num pws) (wx : Wd xs) (wy : Wd ys) :
    Calls Try.prog 12 #[.agg (rowOf false xs), .agg (rowOf false ys)] w (Back (fun rs => num rs = (num xs + num ys) % num pws ∧ rs.length = 9) w) := by
  have hlx := Lib.hid lx
  have hly := Lib.hid ly
  have hhx := Lib.hid hx
  have hhy := Lib.hid hy
  clear lx ly hx hy
  go_enter Try.func12, Try.ntmps12
  go_wp2_with (first
    | refine wpList_load_row rfl _ _ rfl _ rfl 25 (rowOf false xs) (0, 0) _ (by rw [ha_lt _ _ (by simp; omega), ha_lt _ _ (by simp)]; exact ha_same _ _ rfl) Try.underlying25 rfl (by rw [infoR, size_row, hlx.out]) ?_
    | refine wpList_load_row rfl _ _ rfl _ rfl 25 (rowOf false ys) (0, 0) _ (by rw [ha_lt _ _ (by simp)]; exact ha_same _ _ (by simp)) Try.underlying25 rfl (by rw [infoR, size_row, hly.out]) ?_)
  refine (zz_add _ xs ys hlx.out hly.out hhx.out hhy.out wx wy).mono ?_
  rintro e W1 ⟨rs, rfl, ⟨hq, hlen⟩, hwd, hB⟩
  have hq' := Lib.hid hq
  have hlen' := Lib.hid hlen
  have hR : W1.heap[w.heap.size + 1 + 1]? = some (.cells (rowOf false zeros) 25 (0, 0)) := by rw [hB.block _ (by simp)]; exact ha_same _ _ (by simp)
  have hB5 : Below w.heap.size w W1 := ((((Below.refl w.heap.size w).alloc (Nat.le_refl _) _).alloc (by simp) _).alloc (by simp; omega) _).trans (hB.mono (by simp; omega))
  clear hq hlen hB
  go_wp2_with (first
      | refine wpList_store_row rfl _ _ _ rfl _ _ rfl rfl _ _ hR (by rw [infoR, size_row, hlen'.out]) (by rw [size_row, size_row, hlen'.out]; rfl) (one_row _) ?_)
  refine bodyPost_ret (results_cell_row rfl _ _ _ _ _ _ _ rfl (setRow_heap _ _ _ _ _ _ hR) Try.underlying25 rfl (by rw [infoR, size_row, hlen'.out])) rfl ?_
  exact ⟨rs, rfl, ⟨hq'.out, hlen'.out⟩, hwd, below_setRow hB5 (by omega) _⟩

set_option maxHeartbeats 1000000 in
theorem zz_sub (w : World) (xs ys : List Nat) (lx : xs.length = 9) (ly : ys.length = 9) (hx : num xs < num pws) (hy : num ys < num pws) (wx : Wd xs) (wy : Wd ys) :
    Calls Try.prog 14 #[.agg (rowOf false xs), .agg (rowOf false ys)] w (Back (fun rs => num rs = (num xs + num pws - num ys) % num pws ∧ rs.length = 9) w) := by
  have hlx := Lib.hid lx
  have hly := Lib.hid ly
  have hhx := Lib.hid hx
  have hhy := Lib.hid hy
  clear lx ly hx hy
  obtain ⟨iT, hiT, hsT, hzT⟩ := info_of infoT
  obtain ⟨iM, hiM, hsM, hzM⟩ := info_of infoM
  have HiT := Lib.hid hiT
  have HiM := Lib.hid hiM
  have HzT := Lib.hid hzT
  have HzM := Lib.hid hzM
  clear hiT hiM hzT hzM
  go_enter Try.func14, Try.ntmps14
  go_wp2_with fail
  have hS : Hold w [(w.heap.size + 1, ys), (w.heap.size, xs)] (((w.alloc (.cells (rowOf false xs) 25)).alloc (.cells (rowOf false ys) 25)).alloc (.cells (rowOf false zeros) 25)).drew :=
    ((((Hold.refl w).box xs 25 rfl).box ys 25 (by simp)).later ((Below.refl _ _).alloc (Nat.le_refl _) _)).drew
  have hres : (((w.alloc (.cells (rowOf false xs) 25)).alloc (.cells (rowOf false ys) 25)).alloc (.cells (rowOf false zeros) 25)).drew.heap[w.heap.size + 1 + 1]? = some (.cells (rowOf false zeros) 25 (0, 0)) := by
    rw [hd_eq]; exact ha_same _ _ (by simp)
  refine region_held (S := Hold w [(w.heap.size + 1, ys), (w.heap.size, xs)]) mixed ?_
  change wpAnyH _ _ _ _ _ _ _ _ (((w.alloc (.cells (rowOf false xs) 25)).alloc (.cells (rowOf false ys) 25)).alloc (.cells (rowOf false zeros) 25)).drew
  have hsz : (((w.alloc (.cells (rowOf false xs) 25)).alloc (.cells (rowOf false ys) 25)).alloc (.cells (rowOf false zeros) 25)).drew.heap.size = w.heap.size + 3 := by simp
  generalize (((w.alloc (.cells (rowOf false xs) 25)).alloc (.cells (rowOf false ys) 25)).alloc (.cells (rowOf false zeros) 25)).drew = W at hS hres hsz ⊢
  refine wpAnyH_take (i := 0) (v := .agg (rowOf false xs)) rfl (by kernel_rfl) (by kernel_rfl) (by kernel_rfl) (fun _ _ _ h => h) (y_load (b := w.heap.size) rfl rfl rfl Try.underlying25 HiT.out hsT (by simp) hlx.out) hS ?_
  refine wpAnyH_take (i := 1) (v := .agg (rowOf false ys)) rfl (by kernel_rfl) (by kernel_rfl) (by kernel_rfl) (fun _ _ _ h => h) (y_load (b := w.heap.size + 1) rfl rfl rfl Try.underlying25 HiT.out hsT (by simp) hly.out) hS ?_
  have hS1 := hS.later ((Below.refl _ _).alloc (Nat.le_refl _) (.cells (rowOf false zeros) 38))
  have hS2 := hS1.later ((Below.refl _ _).alloc (Nat.le_refl _) (.cells (rowOf false zeros) 38))
  have g0 : ((W.alloc (.cells (rowOf false zeros) 38)).alloc (.cells (rowOf false zeros) 38)).heap[W.heap.size]? = some (.cells (rowOf false zeros) 38 (0, 0)) := by rw [ha_lt _ _ (by simp)]; exact ha_same _ _ rfl
  have g1 : ((W.alloc (.cells (rowOf false zeros) 38)).alloc (.cells (rowOf false zeros) 38)).heap[(W.alloc (.cells (rowOf false zeros) 38)).heap.size]? = some (.cells (rowOf false zeros) 38 (0, 0)) := ha_same _ _ rfl
  have g2 : ((W.alloc (.cells (rowOf false zeros) 38)).alloc (.cells (rowOf false zeros) 38)).heap[w.heap.size + 1 + 1]? = some (.cells (rowOf false zeros) 25 (0, 0)) := by rw [ha_lt _ _ (by simp; omega), ha_lt _ _ (by omega)]; exact hres
  have s1 : (W.alloc (.cells (rowOf false zeros) 38)).heap.size = W.heap.size + 1 := by simp
  have s2 : ((W.alloc (.cells (rowOf false zeros) 38)).alloc (.cells (rowOf false zeros) 38)).heap.size = W.heap.size + 2 := by simp
  refine wpAnyH_all (rs := [2, 3]) (by kernel_rfl) (by simp) ?_
  intro i hi
  simp only [List.mem_cons, List.not_mem_nil, or_false] at hi
  rcases hi with rfl | rfl
  · refine o_value rfl rfl (run_alloc rfl HiM.out HzM.out) ⟨hS1, ?_⟩
    refine wpAnyH_all (rs := [3]) (by kernel_rfl) (by simp) ?_
    intro i hi
    obtain rfl : i = 3 := by simpa using hi
    refine o_value rfl rfl (run_alloc rfl HiM.out HzM.out) ⟨hS2, ?_⟩
    generalize (W.alloc (.cells (rowOf false zeros) 38)).alloc (.cells (rowOf false zeros) 38) = W2 at hS2 g0 g1 g2 s2 ⊢
    generalize (W.alloc (.cells (rowOf false zeros) 38)).heap.size = ky at g1 s1 ⊢
    generalize W.heap.size = kx at g0 s1 s2 hsz ⊢
    clear hS1 hS hres
    refine wpAnyH_all (rs := [4]) (by kernel_rfl) (by simp) ?_
    intro i hi
    obtain rfl : i = 4 := by simpa using hi
    refine O_store (g := kx) (cells := rowOf false xs) rfl rfl rfl rfl rfl g0 (by rw [infoS, size_row, hlx.out]) (by rw [size_row, size_row, hlx.out]; rfl) (one_row _) ⟨hS2.setRow _ (by omega) (by simp; omega), ?_⟩
    refine wpAnyH_all (rs := [5]) (by kernel_rfl) (by simp) ?_
    intro i hi
    obtain rfl : i = 5 := by simpa using hi
    refine O_store (g := ky) (cells := rowOf false ys) rfl rfl rfl rfl rfl (by rw [setRow_other _ _ _ _ (by omega)]; exact g1) (by rw [infoS, size_row, hly.out]) (by rw [size_row, size_row, hly.out]; rfl) (one_row _) ⟨(hS2.setRow _ (by omega) (by simp; omega)).setRow _ (by omega) (by simp; omega), ?_⟩
    refine wpAnyH_done (by kernel_rfl) ?_ 0
    have hX : ((W2.setRow kx (rowOf false xs)).setRow ky (rowOf false ys)).heap[kx]? = some (.cells (rowOf false xs) 38 (0, 0)) := by rw [setRow_other _ _ _ _ (by omega)]; exact setRow_heap _ _ _ _ _ _ g0
    have hY : ((W2.setRow kx (rowOf false xs)).setRow ky (rowOf false ys)).heap[ky]? = some (.cells (rowOf false ys) 38 (0, 0)) := setRow_heap _ _ (rowOf false zeros) _ _ _ (by rw [setRow_other _ _ _ _ (by omega)]; exact g1)
    have hR : ((W2.setRow kx (rowOf false xs)).setRow ky (rowOf false ys)).heap[w.heap.size + 1 + 1]? = some (.cells (rowOf false zeros) 25 (0, 0)) := by rw [setRow_other _ _ _ _ (by omega), setRow_other _ _ _ _ (by omega)]; exact g2
    have hB : Below w.heap.size w ((W2.setRow kx (rowOf false xs)).setRow ky (rowOf false ys)) := below_setRow (below_setRow hS2.below (by omega) _) (by omega) _
    have hZ := Lib.hid (show ((W2.setRow kx (rowOf false xs)).setRow ky (rowOf false ys)).heap.size = w.heap.size + 5 by simp [s2]; omega)
    have hkx := Lib.hid (show w.heap.size + 3 ≤ kx ∧ kx < w.heap.size + 5 ∧ w.heap.size + 3 ≤ ky ∧ ky < w.heap.size + 5 ∧ kx ≠ ky by omega)
    generalize (W2.setRow kx (rowOf false xs)).setRow ky (rowOf false ys) = W4 at hX hY hR hB hZ ⊢
    clear g0 g1 g2 hS2 s2 hsz s1
    go_wp2_with fail
    have hZ := hZ.out
    have hkx := hkx.out
    refine (fiat_sub (W4.alloc (.cells (rowOf false zeros) 38)) _ _ _ zeros xs ys (by simp; omega) rfl hlx.out hly.out wd_zeros wx wy hhx.out hhy.out (ha_same _ _ rfl) (by rw [ha_lt _ _ (by omega)]; exact hX) (by rw [ha_lt _ _ (by omega)]; exact hY)).mono ?_
    rintro e W5 ⟨rfl, rs, hwd, ⟨hq, hlen⟩, hrow, hst⟩
    have hq' := Lib.hid hq
    have hlen' := Lib.hid hlen
    have hR5 : W5.heap[w.heap.size + 1 + 1]? = some (.cells (rowOf false zeros) 25 (0, 0)) := by
      rw [hst.block _ (by simp; omega) (by simp; omega), ha_lt _ _ (by omega)]; exact hR
    have hB5 : Below w.heap.size w W5 := hst.below (hB.alloc (by omega) _) (by simp; omega) (by simp; omega)
    clear hq hlen hst hX hY hR hB hZ hkx
    go_wp2_with (first
      | refine wpList_load_row rfl _ _ rfl _ rfl _ _ _ _ hrow Try.underlying38 rfl (by rw [infoS, size_row, hlen'.out]) ?_
      | refine wpList_store_row rfl _ _ _ rfl _ _ rfl rfl _ _ hR5 (by rw [infoR, size_row, hlen'.out]) (by rw [size_row, size_row, hlen'.out]; rfl) (one_row _) ?_)
    refine bodyPost_ret (results_cell_row rfl _ _ _ _ _ _ _ rfl (setRow_heap _ _ _ _ _ _ hR5) Try.underlying25 rfl (by rw [infoR, size_row, hlen'.out])) rfl ?_
    exact ⟨rs, rfl, ⟨hq'.out, hlen'.out⟩, hwd, below_setRow hB5 (by omega) _⟩
  · refine o_value rfl rfl (run_alloc rfl HiM.out HzM.out) ⟨hS1, ?_⟩
    refine wpAnyH_all (rs := [2]) (by kernel_rfl) (by simp) ?_
    intro i hi
    obtain rfl : i = 2 := by simpa using hi
    refine o_value rfl rfl (run_alloc rfl HiM.out HzM.out) ⟨hS2, ?_⟩
    generalize (W.alloc (.cells (rowOf false zeros) 38)).alloc (.cells (rowOf false zeros) 38) = W2 at hS2 g0 g1 g2 s2 ⊢
    generalize (W.alloc (.cells (rowOf false zeros) 38)).heap.size = kx at g1 s1 ⊢
    generalize W.heap.size = ky at g0 s1 s2 hsz ⊢
    clear hS1 hS hres
    refine wpAnyH_all (rs := [4]) (by kernel_rfl) (by simp) ?_
    intro i hi
    obtain rfl : i = 4 := by simpa using hi
    refine O_store (g := kx) (cells := rowOf false xs) rfl rfl rfl rfl rfl g1 (by rw [infoS, size_row, hlx.out]) (by rw [size_row, size_row, hlx.out]; rfl) (one_row _) ⟨hS2.setRow _ (by omega) (by simp; omega), ?_⟩
    refine wpAnyH_all (rs := [5]) (by kernel_rfl) (by simp) ?_
    intro i hi
    obtain rfl : i = 5 := by simpa using hi
    refine O_store (g := ky) (cells := rowOf false ys) rfl rfl rfl rfl rfl (by rw [setRow_other _ _ _ _ (by omega)]; exact g0) (by rw [infoS, size_row, hly.out]) (by rw [size_row, size_row, hly.out]; rfl) (one_row _) ⟨(hS2.setRow _ (by omega) (by simp; omega)).setRow _ (by omega) (by simp; omega), ?_⟩
    refine wpAnyH_done (by kernel_rfl) ?_ 0
    have hX : ((W2.setRow kx (rowOf false xs)).setRow ky (rowOf false ys)).heap[kx]? = some (.cells (rowOf false xs) 38 (0, 0)) := by rw [setRow_other _ _ _ _ (by omega)]; exact setRow_heap _ _ _ _ _ _ g1
    have hY : ((W2.setRow kx (rowOf false xs)).setRow ky (rowOf false ys)).heap[ky]? = some (.cells (rowOf false ys) 38 (0, 0)) := setRow_heap _ _ (rowOf false zeros) _ _ _ (by rw [setRow_other _ _ _ _ (by omega)]; exact g0)
    have hR : ((W2.setRow kx (rowOf false xs)).setRow ky (rowOf false ys)).heap[w.heap.size + 1 + 1]? = some (.cells (rowOf false zeros) 25 (0, 0)) := by rw [setRow_other _ _ _ _ (by omega), setRow_other _ _ _ _ (by omega)]; exact g2
    have hB : Below w.heap.size w ((W2.setRow kx (rowOf false xs)).setRow ky (rowOf false ys)) := below_setRow (below_setRow hS2.below (by omega) _) (by omega) _
    have hZ := Lib.hid (show ((W2.setRow kx (rowOf false xs)).setRow ky (rowOf false ys)).heap.size = w.heap.size + 5 by simp [s2]; omega)
    have hkx := Lib.hid (show w.heap.size + 3 ≤ kx ∧ kx < w.heap.size + 5 ∧ w.heap.size + 3 ≤ ky ∧ ky < w.heap.size + 5 ∧ kx ≠ ky by omega)
    generalize (W2.setRow kx (rowOf false xs)).setRow ky (rowOf false ys) = W4 at hX hY hR hB hZ ⊢
    clear g0 g1 g2 hS2 s2 hsz s1
    go_wp2_with fail
    have hZ := hZ.out
    have hkx := hkx.out
    refine (fiat_sub (W4.alloc (.cells (rowOf false zeros) 38)) _ _ _ zeros xs ys (by simp; omega) rfl hlx.out hly.out wd_zeros wx wy hhx.out hhy.out (ha_same _ _ rfl) (by rw [ha_lt _ _ (by omega)]; exact hX) (by rw [ha_lt _ _ (by omega)]; exact hY)).mono ?_
    rintro e W5 ⟨rfl, rs, hwd, ⟨hq, hlen⟩, hrow, hst⟩
    have hq' := Lib.hid hq
    have hlen' := Lib.hid hlen
    have hR5 : W5.heap[w.heap.size + 1 + 1]? = some (.cells (rowOf false zeros) 25 (0, 0)) := by
      rw [hst.block _ (by simp; omega) (by simp; omega), ha_lt _ _ (by omega)]; exact hR
    have hB5 : Below w.heap.size w W5 := hst.below (hB.alloc (by omega) _) (by simp; omega) (by simp; omega)
    clear hq hlen hst hX hY hR hB hZ hkx
    go_wp2_with (first
      | refine wpList_load_row rfl _ _ rfl _ rfl _ _ _ _ hrow Try.underlying38 rfl (by rw [infoS, size_row, hlen'.out]) ?_
      | refine wpList_store_row rfl _ _ _ rfl _ _ rfl rfl _ _ hR5 (by rw [infoR, size_row, hlen'.out]) (by rw [size_row, size_row, hlen'.out]; rfl) (one_row _) ?_)
    refine bodyPost_ret (results_cell_row rfl _ _ _ _ _ _ _ rfl (setRow_heap _ _ _ _ _ _ hR5) Try.underlying25 rfl (by rw [infoR, size_row, hlen'.out])) rfl ?_
    exact ⟨rs, rfl, ⟨hq'.out, hlen'.out⟩, hwd, below_setRow hB5 (by omega) _⟩

set_option maxHeartbeats 1000000 in
theorem im_sub (w : World) (xs ys : List Nat) (lx : xs.length = 9) (ly : ys.length = 9) (hx : num xs < num pws) (hy : num ys < num pws) (wx : Wd xs) (wy : Wd ys) :
    Calls Try.prog 9 #[.agg (rowOf false xs), .agg (rowOf false ys)] w (Back (fun rs => num rs = (num xs + num pws - num ys) % num pws ∧ rs.length = 9) w) := by
  have hlx := Lib.hid lx
  have hly := Lib.hid ly
  have hhx := Lib.hid hx
  have hhy := Lib.hid hy
  clear lx ly hx hy
  go_enter Try.func9, Try.ntmps9
  go_wp2_with (first
    | refine wpList_load_row rfl _ _ rfl _ rfl 25 (rowOf false xs) (0, 0) _ (by rw [ha_lt _ _ (by simp; omega), ha_lt _ _ (by simp)]; exact ha_same _ _ rfl) Try.underlying25 rfl (by rw [infoR, size_row, hlx.out]) ?_
    | refine wpList_load_row rfl _ _ rfl _ rfl 25 (rowOf false ys) (0, 0) _ (by rw [ha_lt _ _ (by simp)]; exact ha_same _ _ (by simp)) Try.underlying25 rfl (by rw [infoR, size_row, hly.out]) ?_)
  refine (zz_sub _ xs ys hlx.out hly.out hhx.out hhy.out wx wy).mono ?_
  rintro e W1 ⟨rs, rfl, ⟨hq, hlen⟩, hwd, hB⟩
  have hq' := Lib.hid hq
  have hlen' := Lib.hid hlen
  have hR : W1.heap[w.heap.size + 1 + 1]? = some (.cells (rowOf false zeros) 25 (0, 0)) := by rw [hB.block _ (by simp)]; exact ha_same _ _ (by simp)
  have hB5 : Below w.heap.size w W1 := ((((Below.refl w.heap.size w).alloc (Nat.le_refl _) _).alloc (by simp) _).alloc (by simp; omega) _).trans (hB.mono (by simp; omega))
  clear hq hlen hB
  go_wp2_with (first
      | refine wpList_store_row rfl _ _ _ rfl _ _ rfl rfl _ _ hR (by rw [infoR, size_row, hlen'.out]) (by rw [size_row, size_row, hlen'.out]; rfl) (one_row _) ?_)
  refine bodyPost_ret (results_cell_row rfl _ _ _ _ _ _ _ rfl (setRow_heap _ _ _ _ _ _ hR) Try.underlying25 rfl (by rw [infoR, size_row, hlen'.out])) rfl ?_
  exact ⟨rs, rfl, ⟨hq'.out, hlen'.out⟩, hwd, below_setRow hB5 (by omega) _⟩

end Go.Proofs.Ytdbaaiplkngjkaa
