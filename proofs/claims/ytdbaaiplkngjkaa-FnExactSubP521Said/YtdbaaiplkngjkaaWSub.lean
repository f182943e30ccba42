/-
  The law's walk: FnExactSubP521.
-/
import Derived.Test.YtdbaaiplkngjkaaDoorB
import Derived.Test.YtdbaaiplkngjkaaSteady
namespace Go.Proofs.Ytdbaaiplkngjkaa
open Go Go.RowKit

theorem hts : ∀ t ∈ [25], ∃ n e i, Try.prog.underlying t = some (.array n e) ∧ Try.prog.info? e = some i := by
  intro t ht
  simp only [List.mem_cons, List.not_mem_nil, or_false] at ht
  subst ht
  obtain ⟨i, h1, _⟩ := size_of sizeW
  exact ⟨_, _, i, Try.underlying25, h1⟩

theorem hold2 (w : World) (xs ys : List Nat) (t : TypeId) : Hold w [(w.heap.size + 1, ys), (w.heap.size, xs)] ((w.alloc (.cells (rowOf false xs) t)).alloc (.cells (rowOf false ys) t)) :=
  ((Hold.refl w).box xs t rfl).box ys t (by simp)

set_option maxHeartbeats 2000000 in
theorem w_sub_1 (w : World) (xs ys : List Nat) (lx : xs.length = 9) (ly : ys.length = 9) (wx : Wd xs) (b1 : decide (num xs < num pws) = false) :
    Calls Try.prog 4 #[.agg (rowOf false xs), .agg (rowOf false ys)] w fun e w' => e = .returned (.bool true) ∧ Below w.heap.size w w' := by
  have h0 := Lib.hid (hold2 w xs ys 25)
  have b1' := Lib.hid b1
  have hlx := Lib.hid lx
  have hly := Lib.hid ly
  clear lx ly
  clear b1
  go_enter Try.func4, Try.ntmps4
  go_wp2_with fail
  refine wp_region_steady hts mixed (by kernel_rfl) (fun _ _ d _ _ h => by cases d <;> exact h) ?_
  go_wp2_with fail
  refine (prime_hold h0.out.drew).mono ?_
  rintro e W1 ⟨B, rs, rfl, rfl, _, _, h1⟩
  go_wp2_with fail
  refine (less_hold xs pws h1 (by simp) (by simp) hlx.out rfl wx pws_wd false b1'.out).mono ?_
  rintro e W2 ⟨rfl, h2⟩
  go_wp2_with fail
  go_ret
  exact ⟨rfl, h2.below⟩

set_option maxHeartbeats 2000000 in
theorem w_sub_2 (w : World) (xs ys : List Nat) (lx : xs.length = 9) (ly : ys.length = 9) (wx : Wd xs) (wy : Wd ys) (b1 : decide (num xs < num pws) = true) (b2 : decide (num ys < num pws) = false) :
    Calls Try.prog 4 #[.agg (rowOf false xs), .agg (rowOf false ys)] w fun e w' => e = .returned (.bool true) ∧ Below w.heap.size w w' := by
  have h0 := Lib.hid (hold2 w xs ys 25)
  have b1' := Lib.hid b1
  have hlx := Lib.hid lx
  have hly := Lib.hid ly
  clear lx ly
  have b2' := Lib.hid b2
  clear b1 b2
  go_enter Try.func4, Try.ntmps4
  go_wp2_with fail
  refine wp_region_steady hts mixed (by kernel_rfl) (fun _ _ d _ _ h => by cases d <;> exact h) ?_
  go_wp2_with fail
  refine (prime_hold h0.out.drew).mono ?_
  rintro e W1 ⟨B, rs, rfl, rfl, _, _, h1⟩
  go_wp2_with fail
  refine (less_hold xs pws h1 (by simp) (by simp) hlx.out rfl wx pws_wd true b1'.out).mono ?_
  rintro e W2 ⟨rfl, h2⟩
  go_wp2_with fail
  refine (prime_hold h2).mono ?_
  rintro e W3 ⟨B2, rs, rfl, rfl, _, _, h3⟩
  go_wp2_with fail
  refine (less_hold ys pws h3 (by simp) (by simp) hly.out rfl wy pws_wd false b2'.out).mono ?_
  rintro e W4 ⟨rfl, h4⟩
  go_wp2_with fail
  go_ret
  exact ⟨rfl, h4.below⟩

set_option maxHeartbeats 2000000 in
theorem w_sub_3 (w : World) (xs ys : List Nat) (lx : xs.length = 9) (ly : ys.length = 9) (wx : Wd xs) (wy : Wd ys) (b1 : decide (num xs < num pws) = true) (b2 : decide (num ys < num pws) = true) :
    Calls Try.prog 4 #[.agg (rowOf false xs), .agg (rowOf false ys)] w fun e w' => e = .returned (.bool true) ∧ Below w.heap.size w w' := by
  have h0 := Lib.hid (hold2 w xs ys 25)
  have b1' := Lib.hid b1
  have hlx := Lib.hid lx
  have hly := Lib.hid ly
  clear lx ly
  have b2' := Lib.hid b2
  clear b1 b2
  go_enter Try.func4, Try.ntmps4
  go_wp2_with fail
  refine wp_region_steady hts mixed (by kernel_rfl) (fun _ _ d _ _ h => by cases d <;> exact h) ?_
  go_wp2_with fail
  refine (prime_hold h0.out.drew).mono ?_
  rintro e W1 ⟨B, rs, rfl, rfl, _, _, h1⟩
  go_wp2_with fail
  refine (less_hold xs pws h1 (by simp) (by simp) hlx.out rfl wx pws_wd true b1'.out).mono ?_
  rintro e W2 ⟨rfl, h2⟩
  go_wp2_with fail
  refine (prime_hold h2).mono ?_
  rintro e W3 ⟨B2, rs, rfl, rfl, _, _, h3⟩
  go_wp2_with fail
  refine (less_hold ys pws h3 (by simp) (by simp) hly.out rfl wy pws_wd true b2'.out).mono ?_
  rintro e W4 ⟨rfl, h4⟩
  have hcx := (h4.rows w.heap.size xs (by simp))
  go_wp2_with (first
    | refine wpList_load_of rfl rfl rfl Try.underlying25 infoR (h4.rows w.heap.size xs (by simp)).1 hlx.out ?_
    | refine wpList_load_of rfl rfl rfl Try.underlying25 infoR (h4.rows (w.heap.size + 1) ys (by simp)).1 hly.out ?_)
  refine (im_sub _ xs ys hlx.out hly.out (of_decide_eq_true b1'.out) (of_decide_eq_true b2'.out) wx wy).mono ?_
  rintro e W5 ⟨rs0, rfl, ⟨hq, hlen⟩, hwd, hb⟩
  have h5 := h4.later hb
  have hq' := Lib.hid hq
  have hlen' := Lib.hid hlen
  clear hq hlen hb
  go_wp2_with (refine wpList_store_row rfl _ _ _ rfl _ _ rfl rfl 25 (rowOf false zeros) (ha_same _ _ rfl) (by rw [infoR, size_row, hlen'.out]) (by rw [size_row, size_row, hlen'.out]; rfl) (one_row _) ?_)
  have h6 := Lib.hid (h5.newRow zeros rs0 25)
  refine wp_region_steady hts mixed (by kernel_rfl) (fun _ _ d _ _ h => by cases d <;> exact h) ?_
  go_wp2_with fail
  refine (prime_hold h6.out.drew).mono ?_
  rintro e W6 ⟨B3, rs, rfl, rfl, _, _, h7⟩
  go_wp2_with fail
  refine (subw_hold xs ys h7 (by simp) (by simp) (by simp) hlx.out hly.out wx wy (of_decide_eq_true b1'.out) (of_decide_eq_true b2'.out)).mono ?_
  rintro e W7 ⟨B4, rs, rfl, hq2, hlen2, hwd2, h8⟩
  have hq2' := Lib.hid hq2
  have hlen2' := Lib.hid hlen2
  clear hq2 hlen2
  go_wp2_with fail
  refine (same_hold rs0 rs h8 (by simp) (by simp) hlen'.out hlen2'.out (num_inj hwd hwd2 (by rw [hlen2'.out, hlen'.out]) (by rw [hq'.out, hq2'.out]))).mono ?_
  rintro e W8 ⟨rfl, h9⟩
  go_wp2_with fail
  go_ret
  exact ⟨rfl, h9.below⟩


theorem w_sub_row (w : World) (xs : List Nat) (lx : xs.length = 9) (fx : ∀ x ∈ xs, x < lim false) (ys : List Nat) (ly : ys.length = 9) (fy : ∀ x ∈ ys, x < lim false) :
    Calls Try.prog 4 #[.agg (rowOf false xs), .agg (rowOf false ys)] w fun e w' => e = .returned (.bool true) ∧ Below w.heap.size w w' := by
  by_cases h1 : num xs < num pws
  · by_cases h2 : num ys < num pws
    · exact w_sub_3 w xs ys lx ly (Wd.of_mem fx) (Wd.of_mem fy) (decide_eq_true h1) (decide_eq_true h2)
    · exact w_sub_2 w xs ys lx ly (Wd.of_mem fx) (Wd.of_mem fy) (decide_eq_true h1) (decide_eq_false h2)
  · exact w_sub_1 w xs ys lx ly (Wd.of_mem fx) (decide_eq_false h1)

end Go.Proofs.Ytdbaaiplkngjkaa
