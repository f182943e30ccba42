/-
  The law's walk: FnExactSubP256.
-/
import Derived.Test.YtgpngihiacachaaHold
import Derived.Test.YtgpngihiacachaaDoorB
import Derived.Test.YtgpngihiacachaaSteady
namespace Go.Proofs.Ytgpngihiacachaa
open Go Go.RowKit

theorem hts : ∀ t ∈ [25], ∃ n e i, Try.prog.underlying t = some (.array n e) ∧ Try.prog.info? e = some i := by
  intro t ht
  simp only [List.mem_cons, List.not_mem_nil, or_false] at ht
  subst ht
  obtain ⟨i, h1, _⟩ := size_of sizeW
  exact ⟨_, _, i, Try.underlying25, h1⟩

theorem hold2 (w : World) (xs ys : List Nat) (t : TypeId) : Hold w [(w.heap.size + 1, ys), (w.heap.size, xs)] ((w.alloc (.cells (rowOf false xs) t)).alloc (.cells (rowOf false ys) t)) :=
  ((Hold.refl w).box xs t rfl).box ys t (by simp)

set_option maxHeartbeats 2000000 in
theorem w_sub_1 (w : World) (x0 x1 x2 x3 y0 y1 y2 y3 : Nat) (wx : Wd [x0, x1, x2, x3]) (b1 : decide (num [x0, x1, x2, x3] < num pws) = false) :
    Calls Try.prog 4 #[.agg #[.int .u64 (x0 : Int), .int .u64 (x1 : Int), .int .u64 (x2 : Int), .int .u64 (x3 : Int)], .agg #[.int .u64 (y0 : Int), .int .u64 (y1 : Int), .int .u64 (y2 : Int), .int .u64 (y3 : Int)]] w fun e w' => e = .returned (.bool true) ∧ Below w.heap.size w w' := by
  have h0 := Lib.hid (hold2 w [x0, x1, x2, x3] [y0, y1, y2, y3] 25)
  have b1' := Lib.hid b1
  clear b1
  go_enter Try.func4, Try.ntmps4
  go_wp2_with fail
  refine wp_region_steady hts mixed (by kernel_rfl) (fun _ _ d _ _ h => by cases d <;> exact h) ?_
  go_wp2_with fail
  refine (prime_hold h0.out.drew).mono ?_
  rintro e W1 ⟨B, rs, rfl, rfl, _, _, h1⟩
  go_wp2_with fail
  refine (less_hold [x0, x1, x2, x3] pws h1 (by simp) (by simp) rfl rfl wx pws_wd false b1'.out).mono ?_
  rintro e W2 ⟨rfl, h2⟩
  go_wp2_with fail
  go_ret
  exact ⟨rfl, h2.below⟩

set_option maxHeartbeats 2000000 in
theorem w_sub_2 (w : World) (x0 x1 x2 x3 y0 y1 y2 y3 : Nat) (wx : Wd [x0, x1, x2, x3]) (wy : Wd [y0, y1, y2, y3]) (b1 : decide (num [x0, x1, x2, x3] < num pws) = true) (b2 : decide (num [y0, y1, y2, y3] < num pws) = false) :
    Calls Try.prog 4 #[.agg #[.int .u64 (x0 : Int), .int .u64 (x1 : Int), .int .u64 (x2 : Int), .int .u64 (x3 : Int)], .agg #[.int .u64 (y0 : Int), .int .u64 (y1 : Int), .int .u64 (y2 : Int), .int .u64 (y3 : Int)]] w fun e w' => e = .returned (.bool true) ∧ Below w.heap.size w w' := by
  have h0 := Lib.hid (hold2 w [x0, x1, x2, x3] [y0, y1, y2, y3] 25)
  have b1' := Lib.hid b1
  have b2' := Lib.hid b2
  clear b1 b2
  go_enter Try.func4, Try.ntmps4
  go_wp2_with fail
  refine wp_region_steady hts mixed (by kernel_rfl) (fun _ _ d _ _ h => by cases d <;> exact h) ?_
  go_wp2_with fail
  refine (prime_hold h0.out.drew).mono ?_
  rintro e W1 ⟨B, rs, rfl, rfl, _, _, h1⟩
  go_wp2_with fail
  refine (less_hold [x0, x1, x2, x3] pws h1 (by simp) (by simp) rfl rfl wx pws_wd true b1'.out).mono ?_
  rintro e W2 ⟨rfl, h2⟩
  go_wp2_with fail
  refine (prime_hold h2).mono ?_
  rintro e W3 ⟨B2, rs, rfl, rfl, _, _, h3⟩
  go_wp2_with fail
  refine (less_hold [y0, y1, y2, y3] pws h3 (by simp) (by simp) rfl rfl wy pws_wd false b2'.out).mono ?_
  rintro e W4 ⟨rfl, h4⟩
  go_wp2_with fail
  go_ret
  exact ⟨rfl, h4.below⟩

set_option maxHeartbeats 2000000 in
theorem w_sub_3 (w : World) (x0 x1 x2 x3 y0 y1 y2 y3 : Nat) (wx : Wd [x0, x1, x2, x3]) (wy : Wd [y0, y1, y2, y3]) (b1 : decide (num [x0, x1, x2, x3] < num pws) = true) (b2 : decide (num [y0, y1, y2, y3] < num pws) = true) :
    Calls Try.prog 4 #[.agg #[.int .u64 (x0 : Int), .int .u64 (x1 : Int), .int .u64 (x2 : Int), .int .u64 (x3 : Int)], .agg #[.int .u64 (y0 : Int), .int .u64 (y1 : Int), .int .u64 (y2 : Int), .int .u64 (y3 : Int)]] w fun e w' => e = .returned (.bool true) ∧ Below w.heap.size w w' := by
  have h0 := Lib.hid (hold2 w [x0, x1, x2, x3] [y0, y1, y2, y3] 25)
  have b1' := Lib.hid b1
  have b2' := Lib.hid b2
  clear b1 b2
  go_enter Try.func4, Try.ntmps4
  go_wp2_with fail
  refine wp_region_steady hts mixed (by kernel_rfl) (fun _ _ d _ _ h => by cases d <;> exact h) ?_
  go_wp2_with fail
  refine (prime_hold h0.out.drew).mono ?_
  rintro e W1 ⟨B, rs, rfl, rfl, _, _, h1⟩
  go_wp2_with fail
  refine (less_hold [x0, x1, x2, x3] pws h1 (by simp) (by simp) rfl rfl wx pws_wd true b1'.out).mono ?_
  rintro e W2 ⟨rfl, h2⟩
  go_wp2_with fail
  refine (prime_hold h2).mono ?_
  rintro e W3 ⟨B2, rs, rfl, rfl, _, _, h3⟩
  go_wp2_with fail
  refine (less_hold [y0, y1, y2, y3] pws h3 (by simp) (by simp) rfl rfl wy pws_wd true b2'.out).mono ?_
  rintro e W4 ⟨rfl, h4⟩
  have hcx := (h4.rows w.heap.size [x0, x1, x2, x3] (by simp)).1
  have hcy := (h4.rows (w.heap.size + 1) [y0, y1, y2, y3] (by simp)).1
  have cx0 : W4.cell? ⟨w.heap.size, 0, none⟩ = some (.int .u64 (x0 : Int)) := hcx 0 (by simp)
  have cx1 : W4.cell? ⟨w.heap.size, 1, none⟩ = some (.int .u64 (x1 : Int)) := hcx 1 (by simp)
  have cx2 : W4.cell? ⟨w.heap.size, 2, none⟩ = some (.int .u64 (x2 : Int)) := hcx 2 (by simp)
  have cx3 : W4.cell? ⟨w.heap.size, 3, none⟩ = some (.int .u64 (x3 : Int)) := hcx 3 (by simp)
  have cy0 : W4.cell? ⟨w.heap.size + 1, 0, none⟩ = some (.int .u64 (y0 : Int)) := hcy 0 (by simp)
  have cy1 : W4.cell? ⟨w.heap.size + 1, 1, none⟩ = some (.int .u64 (y1 : Int)) := hcy 1 (by simp)
  have cy2 : W4.cell? ⟨w.heap.size + 1, 2, none⟩ = some (.int .u64 (y2 : Int)) := hcy 2 (by simp)
  have cy3 : W4.cell? ⟨w.heap.size + 1, 3, none⟩ = some (.int .u64 (y3 : Int)) := hcy 3 (by simp)
  clear hcx hcy
  go_wp2_with fail
  refine (im_sub _ x0 x1 x2 x3 y0 y1 y2 y3 (of_decide_eq_true b1'.out) (of_decide_eq_true b2'.out) wx wy).mono ?_
  rintro e W5 ⟨rs, rfl, ⟨hq, hlen⟩, hwd, hb⟩
  have h5 := h4.later hb
  obtain ⟨r0, r1, r2, r3, rfl⟩ := lenW hlen
  have hq' := Lib.hid hq
  clear hq hlen hb cx0 cx1 cx2 cx3 cy0 cy1 cy2 cy3
  simp only [rowOf, List.map_cons, List.map_nil]
  go_wp2_with fail
  have h6 := Lib.hid (h5.box [r0, r1, r2, r3] 25 rfl)
  refine wp_region_steady hts mixed (by kernel_rfl) (fun _ _ d _ _ h => by cases d <;> exact h) ?_
  go_wp2_with fail
  refine (prime_hold h6.out.drew).mono ?_
  rintro e W6 ⟨B3, rs, rfl, rfl, _, _, h7⟩
  go_wp2_with fail
  refine (subw_hold [x0, x1, x2, x3] [y0, y1, y2, y3] h7 (by simp) (by simp) (by simp) rfl rfl wx wy (of_decide_eq_true b1'.out) (of_decide_eq_true b2'.out)).mono ?_
  rintro e W7 ⟨B4, rs, rfl, hq2, hlen2, hwd2, h8⟩
  have hq2' := Lib.hid hq2
  have hlen2' := Lib.hid hlen2
  clear hq2 hlen2
  go_wp2_with fail
  refine (same_hold [r0, r1, r2, r3] rs h8 (by simp) (by simp) rfl hlen2'.out (num_inj hwd hwd2 (by rw [hlen2'.out]; rfl) (by rw [hq'.out, hq2'.out]))).mono ?_
  rintro e W8 ⟨rfl, h9⟩
  go_wp2_with fail
  go_ret
  exact ⟨rfl, h9.below⟩


theorem w_sub (w : World) (x0 x1 x2 x3 y0 y1 y2 y3 : Nat) (wx : Wd [x0, x1, x2, x3]) (wy : Wd [y0, y1, y2, y3]) : Calls Try.prog 4 #[.agg #[.int .u64 (x0 : Int), .int .u64 (x1 : Int), .int .u64 (x2 : Int), .int .u64 (x3 : Int)], .agg #[.int .u64 (y0 : Int), .int .u64 (y1 : Int), .int .u64 (y2 : Int), .int .u64 (y3 : Int)]] w fun e w' => e = .returned (.bool true) ∧ Below w.heap.size w w' := by
  by_cases h1 : num [x0, x1, x2, x3] < num pws
  · by_cases h2 : num [y0, y1, y2, y3] < num pws
    · exact w_sub_3 w x0 x1 x2 x3 y0 y1 y2 y3 wx wy (decide_eq_true h1) (decide_eq_true h2)
    · exact w_sub_2 w x0 x1 x2 x3 y0 y1 y2 y3 wx wy (decide_eq_true h1) (decide_eq_false h2)
  · exact w_sub_1 w x0 x1 x2 x3 y0 y1 y2 y3 wx (decide_eq_false h1)

theorem w_sub_row (w : World) (xs : List Nat) (lx : xs.length = 4) (fx : ∀ x ∈ xs, x < lim false) (ys : List Nat) (ly : ys.length = 4) (fy : ∀ x ∈ ys, x < lim false) :
    Calls Try.prog 4 #[.agg (rowOf false xs), .agg (rowOf false ys)] w fun e w' => e = .returned (.bool true) ∧ Below w.heap.size w w' := by
  obtain ⟨x0, x1, x2, x3, rfl⟩ := lenW lx
  obtain ⟨y0, y1, y2, y3, rfl⟩ := lenW ly
  exact w_sub w x0 x1 x2 x3 y0 y1 y2 y3 (Wd.of_mem fx) (Wd.of_mem fy)

end Go.Proofs.Ytgpngihiacachaa
