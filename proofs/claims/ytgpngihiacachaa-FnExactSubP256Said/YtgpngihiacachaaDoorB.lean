/-
  The doors of the field's sum and difference, and the thin package's functions over them: what a call does.
-/
import Derived.Test.YtgpngihiacachaaFiatB
import Derived.Test.YtgpngihiacachaaMem
import Derived.WalkKit
import Derived.RegionTactic
import Derived.BigRegion
import Derived.ChangeAlike
import Derived.Outline
namespace Go.Proofs.Ytgpngihiacachaa
open Go Go.RowKit

/-- What a function of the field that hands back an element leaves. -/
def Back (Q : List Nat → Prop) (w : World) (e : Ending) (w' : World) : Prop :=
  ∃ rs, e = .returned (.agg (rowOf false rs)) ∧ Q rs ∧ Wd rs ∧ Below w.heap.size w w'

set_option maxHeartbeats 1000000 in
theorem zz_add (w : World) (x0 x1 x2 x3 y0 y1 y2 y3 : Nat) (hx : num [x0, x1, x2, x3] < num pws) (hy : num [y0, y1, y2, y3] < num pws) (wx : Wd [x0, x1, x2, x3]) (wy : Wd [y0, y1, y2, y3]) :
    Calls Try.prog 23 #[.agg #[.int .u64 (x0 : Int), .int .u64 (x1 : Int), .int .u64 (x2 : Int), .int .u64 (x3 : Int)], .agg #[.int .u64 (y0 : Int), .int .u64 (y1 : Int), .int .u64 (y2 : Int), .int .u64 (y3 : Int)]] w
      (Back (fun rs => num rs = (num [x0, x1, x2, x3] + num [y0, y1, y2, y3]) % num pws ∧ rs.length = 4) w) := by
  go_enter Try.func23, Try.ntmps23
  go_wp2_with fail
  go_region
  all_goals
    go_wp2_with fail
    refine (fiat_add _ _ _ _ [0, 0, 0, 0] [x0, x1, x2, x3] [y0, y1, y2, y3] (by simp <;> omega) rfl rfl rfl (Wd.of_mem (by simp)) wx wy hx hy ?_ ?_ ?_).mono ?_
    · rw [hd_eq]; exact ha_same _ _ (by simp)
    · rw [hd_eq, ha_lt _ _ (by simp)]; first | exact ha_same _ _ (by simp) | (rw [ha_lt _ _ (by simp)]; exact ha_same _ _ (by simp))
    · rw [hd_eq, ha_lt _ _ (by simp)]; first | exact ha_same _ _ (by simp) | (rw [ha_lt _ _ (by simp)]; exact ha_same _ _ (by simp))
    rintro e w1 ⟨rfl, rs, hwd, ⟨hq, hlen⟩, hrow, hst⟩
    obtain ⟨r0, r1, r2, r3, rfl⟩ := lenW hlen
    have hres := hst.block (w.heap.size + 1 + 1) (by simp <;> omega) (by simp)
    rw [hd_eq, ha_lt _ _ (by simp), ha_lt _ _ (by simp), ha_lt _ _ (by simp), ha_same _ _ (by simp)] at hres
    have hbel : Below w.heap.size w w1 := Stays.below (((((((Below.refl w.heap.size w).alloc (Nat.le_refl _) _).alloc (by simp) _).alloc (by simp <;> omega) _).alloc (by simp <;> omega) _).alloc (by simp <;> omega) _).alloc (by simp <;> omega) _).drew hst (by simp <;> omega) (by simp <;> omega)
    have c0 : w1.cell? ⟨w.heap.size + 1 + 1 + 1 + 1 + 1, 0, none⟩ = some (.int .u64 (r0 : Int)) := by rw [cell_of_heap hrow]; rfl
    have c1 : w1.cell? ⟨w.heap.size + 1 + 1 + 1 + 1 + 1, 1, none⟩ = some (.int .u64 (r1 : Int)) := by rw [cell_of_heap hrow]; rfl
    have c2 : w1.cell? ⟨w.heap.size + 1 + 1 + 1 + 1 + 1, 2, none⟩ = some (.int .u64 (r2 : Int)) := by rw [cell_of_heap hrow]; rfl
    have c3 : w1.cell? ⟨w.heap.size + 1 + 1 + 1 + 1 + 1, 3, none⟩ = some (.int .u64 (r3 : Int)) := by rw [cell_of_heap hrow]; rfl
    have z0 : w1.cell? ⟨w.heap.size + 1 + 1, 0, none⟩ = some (.int .u64 0) := by rw [cell_of_heap hres]; rfl
    have z1 : w1.cell? ⟨w.heap.size + 1 + 1, 1, none⟩ = some (.int .u64 0) := by rw [cell_of_heap hres]; rfl
    have z2 : w1.cell? ⟨w.heap.size + 1 + 1, 2, none⟩ = some (.int .u64 0) := by rw [cell_of_heap hres]; rfl
    have z3 : w1.cell? ⟨w.heap.size + 1 + 1, 3, none⟩ = some (.int .u64 0) := by rw [cell_of_heap hres]; rfl
    have f0 : w1.frozen? ⟨w.heap.size + 1 + 1, 0, none⟩ = false := frozen_of_heap hres _
    have f1 : w1.frozen? ⟨w.heap.size + 1 + 1, 1, none⟩ = false := frozen_of_heap hres _
    have f2 : w1.frozen? ⟨w.heap.size + 1 + 1, 2, none⟩ = false := frozen_of_heap hres _
    have f3 : w1.frozen? ⟨w.heap.size + 1 + 1, 3, none⟩ = false := frozen_of_heap hres _
    clear hrow hres hst
    go_wp2_with fail
    refine bodyPost_ret (v := .agg #[.int .u64 (r0 : Int), .int .u64 (r1 : Int), .int .u64 (r2 : Int), .int .u64 (r3 : Int)]) (by simp [results, Try.results23, go_sem, z0, z1, z2, z3]) rfl ⟨[r0, r1, r2, r3], rfl, ⟨hq, rfl⟩, hwd, ?_⟩
    repeat (first | exact hbel | refine Below.setCell ?_ (by simp <;> omega) _)

set_option maxHeartbeats 400000 in
theorem im_add (w : World) (x0 x1 x2 x3 y0 y1 y2 y3 : Nat) (hx : num [x0, x1, x2, x3] < num pws) (hy : num [y0, y1, y2, y3] < num pws) (wx : Wd [x0, x1, x2, x3]) (wy : Wd [y0, y1, y2, y3]) :
    Calls Try.prog 16 #[.agg #[.int .u64 (x0 : Int), .int .u64 (x1 : Int), .int .u64 (x2 : Int), .int .u64 (x3 : Int)], .agg #[.int .u64 (y0 : Int), .int .u64 (y1 : Int), .int .u64 (y2 : Int), .int .u64 (y3 : Int)]] w
      (Back (fun rs => num rs = (num [x0, x1, x2, x3] + num [y0, y1, y2, y3]) % num pws ∧ rs.length = 4) w) := by
  go_enter Try.func16, Try.ntmps16
  go_wp2_with fail
  refine (zz_add _ x0 x1 x2 x3 y0 y1 y2 y3 hx hy wx wy).mono ?_
  rintro e w1 ⟨rs, rfl, ⟨hq, hlen⟩, hwd, hb⟩
  obtain ⟨r0, r1, r2, r3, rfl⟩ := lenW hlen
  have hres := hb.block (w.heap.size + 1 + 1) (by simp)
  rw [ha_same _ _ (by simp)] at hres
  have hbel : Below w.heap.size w w1 := ((((Below.refl w.heap.size w).alloc (Nat.le_refl _) _).alloc (by simp) _).alloc (by simp <;> omega) _).trans (hb.mono (by simp <;> omega))
  have z0 : w1.cell? ⟨w.heap.size + 1 + 1, 0, none⟩ = some (.int .u64 0) := by rw [cell_of_heap hres]; rfl
  have z1 : w1.cell? ⟨w.heap.size + 1 + 1, 1, none⟩ = some (.int .u64 0) := by rw [cell_of_heap hres]; rfl
  have z2 : w1.cell? ⟨w.heap.size + 1 + 1, 2, none⟩ = some (.int .u64 0) := by rw [cell_of_heap hres]; rfl
  have z3 : w1.cell? ⟨w.heap.size + 1 + 1, 3, none⟩ = some (.int .u64 0) := by rw [cell_of_heap hres]; rfl
  have f0 : w1.frozen? ⟨w.heap.size + 1 + 1, 0, none⟩ = false := frozen_of_heap hres _
  have f1 : w1.frozen? ⟨w.heap.size + 1 + 1, 1, none⟩ = false := frozen_of_heap hres _
  have f2 : w1.frozen? ⟨w.heap.size + 1 + 1, 2, none⟩ = false := frozen_of_heap hres _
  have f3 : w1.frozen? ⟨w.heap.size + 1 + 1, 3, none⟩ = false := frozen_of_heap hres _
  clear hres hb
  simp only [rowOf, List.map_cons, List.map_nil]
  go_wp2_with fail
  refine bodyPost_ret (v := .agg #[.int .u64 (r0 : Int), .int .u64 (r1 : Int), .int .u64 (r2 : Int), .int .u64 (r3 : Int)]) (by simp [results, Try.results16, go_sem, z0, z1, z2, z3]) rfl ⟨[r0, r1, r2, r3], rfl, ⟨hq, rfl⟩, hwd, ?_⟩
  repeat (first | exact hbel | refine Below.setCell ?_ (by simp <;> omega) _)

set_option maxHeartbeats 1000000 in
theorem zz_sub (w : World) (x0 x1 x2 x3 y0 y1 y2 y3 : Nat) (hx : num [x0, x1, x2, x3] < num pws) (hy : num [y0, y1, y2, y3] < num pws) (wx : Wd [x0, x1, x2, x3]) (wy : Wd [y0, y1, y2, y3]) :
    Calls Try.prog 19 #[.agg #[.int .u64 (x0 : Int), .int .u64 (x1 : Int), .int .u64 (x2 : Int), .int .u64 (x3 : Int)], .agg #[.int .u64 (y0 : Int), .int .u64 (y1 : Int), .int .u64 (y2 : Int), .int .u64 (y3 : Int)]] w
      (Back (fun rs => num rs = (num [x0, x1, x2, x3] + num pws - num [y0, y1, y2, y3]) % num pws ∧ rs.length = 4) w) := by
  go_enter Try.func19, Try.ntmps19
  go_wp2_with fail
  go_region
  all_goals
    go_wp2_with fail
    refine (fiat_sub _ _ _ _ [0, 0, 0, 0] [x0, x1, x2, x3] [y0, y1, y2, y3] (by simp <;> omega) rfl rfl rfl (Wd.of_mem (by simp)) wx wy hx hy ?_ ?_ ?_).mono ?_
    · rw [hd_eq]; exact ha_same _ _ (by simp)
    · rw [hd_eq, ha_lt _ _ (by simp)]; first | exact ha_same _ _ (by simp) | (rw [ha_lt _ _ (by simp)]; exact ha_same _ _ (by simp))
    · rw [hd_eq, ha_lt _ _ (by simp)]; first | exact ha_same _ _ (by simp) | (rw [ha_lt _ _ (by simp)]; exact ha_same _ _ (by simp))
    rintro e w1 ⟨rfl, rs, hwd, ⟨hq, hlen⟩, hrow, hst⟩
    obtain ⟨r0, r1, r2, r3, rfl⟩ := lenW hlen
    have hres := hst.block (w.heap.size + 1 + 1) (by simp <;> omega) (by simp)
    rw [hd_eq, ha_lt _ _ (by simp), ha_lt _ _ (by simp), ha_lt _ _ (by simp), ha_same _ _ (by simp)] at hres
    have hbel : Below w.heap.size w w1 := Stays.below (((((((Below.refl w.heap.size w).alloc (Nat.le_refl _) _).alloc (by simp) _).alloc (by simp <;> omega) _).alloc (by simp <;> omega) _).alloc (by simp <;> omega) _).alloc (by simp <;> omega) _).drew hst (by simp <;> omega) (by simp <;> omega)
    have c0 : w1.cell? ⟨w.heap.size + 1 + 1 + 1 + 1 + 1, 0, none⟩ = some (.int .u64 (r0 : Int)) := by rw [cell_of_heap hrow]; rfl
    have c1 : w1.cell? ⟨w.heap.size + 1 + 1 + 1 + 1 + 1, 1, none⟩ = some (.int .u64 (r1 : Int)) := by rw [cell_of_heap hrow]; rfl
    have c2 : w1.cell? ⟨w.heap.size + 1 + 1 + 1 + 1 + 1, 2, none⟩ = some (.int .u64 (r2 : Int)) := by rw [cell_of_heap hrow]; rfl
    have c3 : w1.cell? ⟨w.heap.size + 1 + 1 + 1 + 1 + 1, 3, none⟩ = some (.int .u64 (r3 : Int)) := by rw [cell_of_heap hrow]; rfl
    have z0 : w1.cell? ⟨w.heap.size + 1 + 1, 0, none⟩ = some (.int .u64 0) := by rw [cell_of_heap hres]; rfl
    have z1 : w1.cell? ⟨w.heap.size + 1 + 1, 1, none⟩ = some (.int .u64 0) := by rw [cell_of_heap hres]; rfl
    have z2 : w1.cell? ⟨w.heap.size + 1 + 1, 2, none⟩ = some (.int .u64 0) := by rw [cell_of_heap hres]; rfl
    have z3 : w1.cell? ⟨w.heap.size + 1 + 1, 3, none⟩ = some (.int .u64 0) := by rw [cell_of_heap hres]; rfl
    have f0 : w1.frozen? ⟨w.heap.size + 1 + 1, 0, none⟩ = false := frozen_of_heap hres _
    have f1 : w1.frozen? ⟨w.heap.size + 1 + 1, 1, none⟩ = false := frozen_of_heap hres _
    have f2 : w1.frozen? ⟨w.heap.size + 1 + 1, 2, none⟩ = false := frozen_of_heap hres _
    have f3 : w1.frozen? ⟨w.heap.size + 1 + 1, 3, none⟩ = false := frozen_of_heap hres _
    clear hrow hres hst
    go_wp2_with fail
    refine bodyPost_ret (v := .agg #[.int .u64 (r0 : Int), .int .u64 (r1 : Int), .int .u64 (r2 : Int), .int .u64 (r3 : Int)]) (by simp [results, Try.results19, go_sem, z0, z1, z2, z3]) rfl ⟨[r0, r1, r2, r3], rfl, ⟨hq, rfl⟩, hwd, ?_⟩
    repeat (first | exact hbel | refine Below.setCell ?_ (by simp <;> omega) _)

set_option maxHeartbeats 400000 in
theorem im_sub (w : World) (x0 x1 x2 x3 y0 y1 y2 y3 : Nat) (hx : num [x0, x1, x2, x3] < num pws) (hy : num [y0, y1, y2, y3] < num pws) (wx : Wd [x0, x1, x2, x3]) (wy : Wd [y0, y1, y2, y3]) :
    Calls Try.prog 11 #[.agg #[.int .u64 (x0 : Int), .int .u64 (x1 : Int), .int .u64 (x2 : Int), .int .u64 (x3 : Int)], .agg #[.int .u64 (y0 : Int), .int .u64 (y1 : Int), .int .u64 (y2 : Int), .int .u64 (y3 : Int)]] w
      (Back (fun rs => num rs = (num [x0, x1, x2, x3] + num pws - num [y0, y1, y2, y3]) % num pws ∧ rs.length = 4) w) := by
  go_enter Try.func11, Try.ntmps11
  go_wp2_with fail
  refine (zz_sub _ x0 x1 x2 x3 y0 y1 y2 y3 hx hy wx wy).mono ?_
  rintro e w1 ⟨rs, rfl, ⟨hq, hlen⟩, hwd, hb⟩
  obtain ⟨r0, r1, r2, r3, rfl⟩ := lenW hlen
  have hres := hb.block (w.heap.size + 1 + 1) (by simp)
  rw [ha_same _ _ (by simp)] at hres
  have hbel : Below w.heap.size w w1 := ((((Below.refl w.heap.size w).alloc (Nat.le_refl _) _).alloc (by simp) _).alloc (by simp <;> omega) _).trans (hb.mono (by simp <;> omega))
  have z0 : w1.cell? ⟨w.heap.size + 1 + 1, 0, none⟩ = some (.int .u64 0) := by rw [cell_of_heap hres]; rfl
  have z1 : w1.cell? ⟨w.heap.size + 1 + 1, 1, none⟩ = some (.int .u64 0) := by rw [cell_of_heap hres]; rfl
  have z2 : w1.cell? ⟨w.heap.size + 1 + 1, 2, none⟩ = some (.int .u64 0) := by rw [cell_of_heap hres]; rfl
  have z3 : w1.cell? ⟨w.heap.size + 1 + 1, 3, none⟩ = some (.int .u64 0) := by rw [cell_of_heap hres]; rfl
  have f0 : w1.frozen? ⟨w.heap.size + 1 + 1, 0, none⟩ = false := frozen_of_heap hres _
  have f1 : w1.frozen? ⟨w.heap.size + 1 + 1, 1, none⟩ = false := frozen_of_heap hres _
  have f2 : w1.frozen? ⟨w.heap.size + 1 + 1, 2, none⟩ = false := frozen_of_heap hres _
  have f3 : w1.frozen? ⟨w.heap.size + 1 + 1, 3, none⟩ = false := frozen_of_heap hres _
  clear hres hb
  simp only [rowOf, List.map_cons, List.map_nil]
  go_wp2_with fail
  refine bodyPost_ret (v := .agg #[.int .u64 (r0 : Int), .int .u64 (r1 : Int), .int .u64 (r2 : Int), .int .u64 (r3 : Int)]) (by simp [results, Try.results11, go_sem, z0, z1, z2, z3]) rfl ⟨[r0, r1, r2, r3], rfl, ⟨hq, rfl⟩, hwd, ?_⟩
  repeat (first | exact hbel | refine Below.setCell ?_ (by simp <;> omega) _)

end Go.Proofs.Ytgpngihiacachaa
