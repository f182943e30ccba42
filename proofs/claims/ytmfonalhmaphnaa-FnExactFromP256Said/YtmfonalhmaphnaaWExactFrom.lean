/-
  The law's walk: FnExactFromP256.
-/
import Derived.Test.YtmfonalhmaphnaaDoorF
import Derived.Test.YtmfonalhmaphnaaSpecF
import Derived.Test.YtmfonalhmaphnaaSteady
import Derived.Test.YtmfonalhmaphnaaTake
namespace Go.Proofs.Ytmfonalhmaphnaa
open Go Go.RowKit

theorem Hold.moreW {w0 W : World} {bs : List (Nat × List Nat)} (h : Hold w0 bs W) {B : Nat} {l : List Nat} (hr : Ws W B l) (hB : B < W.heap.size) : Hold w0 ((B, l) :: bs) W :=
  ⟨h.below, fun b xs hm => by
    rcases List.mem_cons.1 hm with hm | hm
    · cases hm; exact ⟨hr, hB⟩
    · exact h.rows b xs hm⟩

theorem hts : ∀ t ∈ [23], ∃ n e i, Try.prog.underlying t = some (.array n e) ∧ Try.prog.info? e = some i := by
  intro t ht
  simp only [List.mem_cons, List.not_mem_nil, or_false] at ht
  subst ht
  obtain ⟨i, h1, _⟩ := size_of sizeW
  exact ⟨_, _, i, Try.underlying23, h1⟩

set_option maxHeartbeats 2000000 in
theorem w_from_1 (w : World) (xs : List Nat) (lx : xs.length = 4) (wx : Wd xs) (b1 : decide (num xs < num pws) = false) :
    Calls Try.prog 3 #[.agg (rowOf false xs)] w fun e w' => e = .returned (.bool true) ∧ Below w.heap.size w w' := by
  have h0 := Lib.hid (((Hold.refl w).box xs 23 rfl))
  have b1' := Lib.hid b1
  have hlx := Lib.hid lx
  clear b1 lx
  go_enter Try.func3, Try.ntmps3
  go_wp2_with fail
  refine wp_region_steady hts mixed (by kernel_rfl) (fun _ _ d _ _ h => by cases d <;> exact h) ?_
  go_wp2_with fail
  refine (prime_hold h0.out.drew).mono ?_
  rintro e W1 ⟨B, rs, rfl, rfl, _, _, h1⟩
  go_wp2_with fail
  refine (less_hold xs pws h1 (by simp) (by simp) hlx.out rfl wx pws_wd false b1'.out).mono ?_
  rintro e W2 ⟨rfl, h2⟩
  go_wp2_with fail
  go_ret
  exact ⟨rfl, h2.below⟩

set_option maxHeartbeats 2000000 in
theorem w_from_2 (w : World) (xs : List Nat) (lx : xs.length = 4) (wx : Wd xs) (b1 : decide (num xs < num pws) = true) :
    Calls Try.prog 3 #[.agg (rowOf false xs)] w fun e w' => e = .returned (.bool true) ∧ Below w.heap.size w w' := by
  have h0 := Lib.hid (((Hold.refl w).box xs 23 rfl))
  have b1' := Lib.hid b1
  have hlx := Lib.hid lx
  clear b1 lx
  go_enter Try.func3, Try.ntmps3
  go_wp2_with fail
  refine wp_region_steady hts mixed (by kernel_rfl) (fun _ _ d _ _ h => by cases d <;> exact h) ?_
  go_wp2_with fail
  refine (prime_hold h0.out.drew).mono ?_
  rintro e W1 ⟨B, rs, rfl, rfl, _, _, h1⟩
  go_wp2_with fail
  refine (less_hold xs pws h1 (by simp) (by simp) hlx.out rfl wx pws_wd true b1'.out).mono ?_
  rintro e W2 ⟨rfl, h2⟩
  go_wp2_with (first
    | refine wpList_load_of rfl rfl rfl Try.underlying23 infoR (h2.rows w.heap.size xs (by simp)).1 hlx.out ?_)
  refine (im_out _ xs hlx.out (of_decide_eq_true b1'.out) wx).mono ?_
  rintro e W5 ⟨rs0, rfl, ⟨hq1, hq2, hlen⟩, hwd, hb⟩
  have h5 := h2.later hb
  have hq' := Lib.hid (And.intro hq1 hq2)
  have hlen' := Lib.hid hlen
  clear hq1 hq2 hlen hb
  go_wp2_with (refine wpList_store_row rfl _ _ _ rfl _ _ rfl rfl 23 (rowOf false zeros) (ha_same _ _ rfl) (by rw [infoR, size_row, hlen'.out]) (by rw [size_row, size_row, hlen'.out]; rfl) (one_row _) ?_)
  have h6 := Lib.hid (h5.newRow zeros rs0 23)
  clear h5 h2 h1 h0
  have h6 := h6.out
  have S0 : Hold w [(W5.heap.size, rs0), (w.heap.size, xs)] _ := (h6.sub (by simp)).drew
  refine region_held (S := Hold w [(W5.heap.size, rs0), (w.heap.size, xs)]) mixed ?_
  change wpAnyH _ _ _ _ _ _ _ _ ((W5.alloc (.cells (rowOf false zeros) 23)).setRow W5.heap.size (rowOf false rs0)).drew
  generalize ((W5.alloc (.cells (rowOf false zeros) 23)).setRow W5.heap.size (rowOf false rs0)).drew = V0 at S0 ⊢
  clear h6
  generalize W5.heap.size = L at S0 ⊢
  refine t_slice (b := L) 0 (some 10) rfl rfl (by kernel_rfl) (by kernel_rfl) (by kernel_rfl) (fun _ _ _ h => h) rfl rfl rfl S0 ?_
  simp only [Act.put, List.setIfInBounds_toArray, List.set_cons_zero, List.set_cons_succ]
  refine wpAnyH_all (rs := [1]) (by kernel_rfl) (by simp) ?_
  intro i hi
  obtain rfl : i = 1 := by simpa using hi
  refine t_call0 (some 11) rfl rfl rfl rfl Try.call5 (prime_hold S0) ?_
  rintro e V1 ⟨B1, ps, rfl, rfl, _, _, P1⟩
  refine ⟨_, rfl, P1.sub (by simp), ?_⟩
  simp only [Act.put, List.setIfInBounds_toArray, List.set_cons_zero, List.set_cons_succ]
  refine wpAnyH_all (rs := [2]) (by kernel_rfl) (by simp) ?_
  intro i hi
  obtain rfl : i = 2 := by simpa using hi
  refine t_call (u := .slice (some ⟨L, 0, none⟩) 4 4) (v := .slice (some ⟨B1, 0, none⟩) 4 4) (some 12) rfl rfl rfl rfl Try.call4 rfl rfl (less_hold rs0 pws P1 (by simp) (by simp) hlen'.out rfl hwd pws_wd true (decide_eq_true hq'.out.1)) ?_
  rintro e V2 ⟨rfl, S2⟩
  have S2 : Hold w [(L, rs0), (w.heap.size, xs)] V2 := S2.sub (by simp)
  refine ⟨_, rfl, S2, ?_⟩
  simp only [Act.put, List.setIfInBounds_toArray, List.set_cons_zero, List.set_cons_succ]
  refine wpAnyH_all (rs := [3]) (by kernel_rfl) (by simp) ?_
  intro i hi
  obtain rfl : i = 3 := by simpa using hi
  refine t_value (v := .bool true) (some 13) rfl rfl rfl (rfl) ⟨S2, ?_⟩
  simp only [Act.put, List.setIfInBounds_toArray, List.set_cons_zero, List.set_cons_succ]
  refine t_slice (b := L) 4 (some 14) rfl rfl (by kernel_rfl) (by kernel_rfl) (by kernel_rfl) (fun _ _ _ h => h) rfl rfl rfl S2 ?_
  simp only [Act.put, List.setIfInBounds_toArray, List.set_cons_zero, List.set_cons_succ]
  refine t_slice (b := w.heap.size) 7 (some 17) rfl rfl (by kernel_rfl) (by kernel_rfl) (by kernel_rfl) (fun _ _ _ h => h) rfl rfl rfl S2 ?_
  simp only [Act.put, List.setIfInBounds_toArray, List.set_cons_zero, List.set_cons_succ]
  refine wpAnyH_all (rs := [5]) (by kernel_rfl) (by simp) ?_
  intro i hi
  obtain rfl : i = 5 := by simpa using hi
  refine t_call0 (some 15) rfl rfl rfl rfl Try.call5 (prime_hold S2) ?_
  rintro e V3 ⟨B3, ps, rfl, rfl, _, _, P3⟩
  refine ⟨_, rfl, P3.sub (by simp), ?_⟩
  simp only [Act.put, List.setIfInBounds_toArray, List.set_cons_zero, List.set_cons_succ]
  refine wpAnyH_all (rs := [6]) (by kernel_rfl) (by simp) ?_
  intro i hi
  obtain rfl : i = 6 := by simpa using hi
  refine t_call (u := .slice (some ⟨L, 0, none⟩) 4 4) (v := .slice (some ⟨B3, 0, none⟩) 4 4) (some 16) rfl rfl rfl rfl Try.call8 rfl rfl (shifted_any V3 L B3 4 4 rs0 hlen' hwd (Lib.hid hq'.out.1) (P3.rows L rs0 (by simp)).1 (P3.rows B3 pws (by simp)).1 (P3.rows L rs0 (by simp)).2 (P3.rows B3 pws (by simp)).2) ?_
  rintro e V4 ⟨B5, c5, rs5, rfl, hws5, hB5, hwd5, hlen5, hq5, hb5⟩
  have S4 : Hold w [(L, rs0), (w.heap.size, xs)] V4 := (P3.later hb5).sub (by simp)
  have S5 := S4.moreW hws5 hB5
  have e5 : rs5 = xs := num_inj hwd5 wx (by rw [hlen5, hlx.out]) (hq5.trans hq'.out.2)
  refine ⟨_, rfl, S4, ?_⟩
  simp only [Act.put, List.setIfInBounds_toArray, List.set_cons_zero, List.set_cons_succ]
  refine wpAnyH_all (rs := [8]) (by kernel_rfl) (by simp) ?_
  intro i hi
  obtain rfl : i = 8 := by simpa using hi
  refine t_call (u := .slice (some ⟨B5, 0, none⟩) 4 c5) (v := .slice (some ⟨w.heap.size, 0, none⟩) 4 4) (some 18) rfl rfl rfl rfl Try.call7 rfl rfl (same_hold rs5 xs S5 (by simp) (by simp) hlen5 hlx.out e5) ?_
  rintro e V6 ⟨rfl, S6⟩
  have S6 : Hold w [(L, rs0), (w.heap.size, xs)] V6 := S6.sub (by simp)
  refine ⟨_, rfl, S6, ?_⟩
  simp only [Act.put, List.setIfInBounds_toArray, List.set_cons_zero, List.set_cons_succ]
  refine wpAnyH_all (rs := [9]) (by kernel_rfl) (by simp) ?_
  intro i hi
  obtain rfl : i = 9 := by simpa using hi
  refine t_value (v := .bool true) (some 19) rfl rfl rfl (rfl) ⟨S6, ?_⟩
  simp only [Act.put, List.setIfInBounds_toArray, List.set_cons_zero, List.set_cons_succ]
  refine wpAnyH_all (rs := [10]) (by kernel_rfl) (by simp) ?_
  intro i hi
  obtain rfl : i = 10 := by simpa using hi
  refine t_value (v := .bool true) (some 2) rfl rfl rfl (rfl) ⟨S6, ?_⟩
  simp only [Act.put, List.setIfInBounds_toArray, List.set_cons_zero, List.set_cons_succ]
  refine wpAnyH_done (by kernel_rfl) ?_ 0
  have hfin := S6.below
  clear S0 S2 S4 S5 S6 P1 P3 hws5 hq5 hb5 e5
  go_wp2_with fail
  go_ret
  exact ⟨rfl, hfin⟩

theorem w_from_row (w : World) (xs : List Nat) (lx : xs.length = 4) (fx : ∀ x ∈ xs, x < lim false) :
    Calls Try.prog 3 #[.agg (rowOf false xs)] w fun e w' => e = .returned (.bool true) ∧ Below w.heap.size w w' := by
  by_cases h1 : num xs < num pws
  · exact w_from_2 w xs lx (Wd.of_mem fx) (decide_eq_true h1)
  · exact w_from_1 w xs lx (Wd.of_mem fx) (decide_eq_false h1)

end Go.Proofs.Ytmfonalhmaphnaa
