/-
  The law's walk: FnWordsBackP224.
-/
import Derived.Test.YtoiiihnjfhdnlaaDoorD
import Derived.Test.YtoiiihnjfhdnlaaWExactWords
import Derived.Test.YtoiiihnjfhdnlaaWAddGroup
namespace Go.Proofs.Ytoiiihnjfhdnlaa
open Go Go.RowKit

/-- The argument's row still stands, and of what was there before nothing has turned. -/
def HY (w : World) (xs : List Nat) (W : World) : Prop := Below w.heap.size w W ∧ W.heap[w.heap.size]? = some (.cells (rowOf true xs) 32 (0, 0))

theorem HY.later {w W W' : World} {xs : List Nat} (h : HY w xs W) (hb : Below W.heap.size W W') : HY w xs W' :=
  ⟨h.1.trans (hb.mono h.1.size), (hb.block _ (lt_of_heap h.2)).trans h.2⟩

theorem HY.drewN {w W : World} {xs : List Nat} (h : HY w xs W) (m : Nat) : HY w xs (W.drewN m) := ⟨⟨h.1.os, h.1.tape, h.1.output, h.1.size, h.1.block⟩, h.2⟩

theorem y_loadY {ops : Array Oper} {o : Oper} {a : Act} {w : World} {xs : List Nat} {x : Operand} (ho : o.op = .load 32 x) (hw : Region.wanted o (yielded ops a.tmps) = true) (hx : a.eval x = .pointer (some ⟨w.heap.size, 0, none⟩)) (hl : xs.length = 28) :
    YieldsIf Try.prog ops (HY w xs) o (.agg (rowOf true xs)) a := by
  refine .inl ⟨hw, fun W hS => ?_⟩
  have := run_loadVar_row (P := Try.prog) W w.heap.size 32 32 (rowOf true xs) (0, 0) _ hS.2 Try.underlying32 rfl (by rw [infoQ, size_rowb, hl])
  simp [execOp, ho, hx, Instr.loadAt, Instr.sureAddr, this]

theorem t_yield {P : Program} {ops : Array Oper} {Q : Exit → Act → World → Prop} {S : World → Prop} {a : Act} {w : World} {o : Oper} {v : Value} {fuel : Nat} {listed : Array Bool} (i : Nat) (d : Option Nat) (hi : ops[i]? = some o) (hd : o.dst = d)
    (hs : Region.noSelect ops = true) (hf : Region.free .any ops listed i = true) (hr : (Region.ready .any ops listed).contains i = true)
    (hQ : ∀ c a w, Q (.panic c) (a.put d v) w → Q (.panic c) a w) (hy : YieldsIf P ops S o v a) (hS : S w)
    (h : wpAnyH P .any ops Q S fuel (listed.setIfInBounds i true) (a.put d v) w) : wpAnyH P .any ops Q S (fuel + 1) listed a w :=
  wpAnyH_take hi hs hf hr (by rw [hd]; exact hQ) hy hS (by rw [hd]; exact h)

theorem t_skip {P : Program} {ops : Array Oper} {Q : Exit → Act → World → Prop} {S : World → Prop} {a : Act} {w : World} {o : Oper} {fuel : Nat} {listed : Array Bool} (i : Nat) (d : Option Nat) (hi : ops[i]? = some o) (hd : o.dst = d)
    (hs : Region.noSelect ops = true) (hf : Region.free .any ops listed i = true) (hr : (Region.ready .any ops listed).contains i = true)
    (hQ : ∀ c a w, Q (.panic c) (a.put d undef) w → Q (.panic c) a w) (hw : Region.wanted o (yielded ops a.tmps) = false) (hS : S w)
    (h : wpAnyH P .any ops Q S fuel (listed.setIfInBounds i true) (a.put d undef) w) : wpAnyH P .any ops Q S (fuel + 1) listed a w :=
  wpAnyH_take hi hs hf hr (by rw [hd]; exact hQ) (.inr ⟨hw, rfl⟩) hS (by rw [hd]; exact h)

theorem t_call1 {P : Program} {ops : Array Oper} {Q : Exit → Act → World → Prop} {a : Act} {w : World} {i : Nat} {o : Oper} {K : Act → World → Prop} {f : FuncId} {x : Operand} {ts : Array TypeId} {u : Value} {R : Ending → World → Prop} (d : Option Nat) (hi : ops[i]? = some o) (hd : o.dst = d)
    (ho : o.op = .call ⟨.value (.func f), #[x], ts⟩) (hw : Region.wanted o (yielded ops a.tmps) = true) (hrun : ∀ vs w, (callFunc f vs).run P w = .ok (.enter f vs) w) (hx : a.eval x = u) (hc : Calls P f #[u] w R) (hR : ∀ e w', R e w' → ∃ v, e = .returned v ∧ K (a.put d v) w') :
    wpOp P ops Q i K a w := o_call hi ho hw hrun (by simp [hx]) hc (by rw [hd]; exact hR)

theorem t_call0 {P : Program} {ops : Array Oper} {Q : Exit → Act → World → Prop} {a : Act} {w : World} {i : Nat} {o : Oper} {K : Act → World → Prop} {f : FuncId} {ts : Array TypeId} {R : Ending → World → Prop} (d : Option Nat) (hi : ops[i]? = some o) (hd : o.dst = d)
    (ho : o.op = .call ⟨.value (.func f), #[], ts⟩) (hw : Region.wanted o (yielded ops a.tmps) = true) (hrun : ∀ vs w, (callFunc f vs).run P w = .ok (.enter f vs) w) (hc : Calls P f #[] w R) (hR : ∀ e w', R e w' → ∃ v, e = .returned v ∧ K (a.put d v) w') :
    wpOp P ops Q i K a w := o_call hi ho hw hrun (by simp) hc (by rw [hd]; exact hR)

theorem sl_run {o : Oper} {a : Act} {b : Nat} {x : Operand} (ho : o.op = .slice 32 x none none none) (hx : a.eval x = .pointer (some ⟨b, 0, none⟩)) (w : World) :
    (execOp a.eval o).run Try.prog w = .ok (.value (.slice (some ⟨b, 0, none⟩) 28 28)) w := by
  simp only [execOp, ho, hx, Option.map_none]
  kernel_rfl

theorem eqgY : Try.prog.eqGuardType Try.prog.depth 32 = false := by kernel_rfl

theorem back_same {xs rs bs : List Nat} (lx : xs.length = 28) (fx : ∀ x ∈ xs, x < 256) (lb : bs.length = 28) (hq : num rs = numY xs) (hb : ∀ i, i < 28 → bs.getD i 0 = num rs / 256 ^ i % 256) : xs = bs := by
  refine num_same (by rw [lx, lb]) (fun j => ?_)
  by_cases hj : j < 28
  · rw [hb j hj, hq, byte_of_numY xs j fx]
  · have a1 : xs[j]? = none := List.getElem?_eq_none (by omega)
    have a2 : bs[j]? = none := List.getElem?_eq_none (by omega)
    simp [a1, a2]

set_option maxHeartbeats 2000000 in
theorem w_back_row (w : World) (xs : List Nat) (lx : xs.length = 28) (fx : ∀ x ∈ xs, x < lim true) :
    Calls Try.prog 7 #[.agg (rowOf true xs)] w fun e w' => e = .returned (.bool true) ∧ Below w.heap.size w w' := by
  have hlx := Lib.hid lx
  clear lx
  obtain ⟨iY, hiY, hsY⟩ := size_of sizeY
  go_enter Try.func7, Try.ntmps7
  go_wp2_with fail
  have h0 : HY w xs (w.alloc (.cells (rowOf true xs) 32)).drew := ⟨((Below.refl _ _).alloc (Nat.le_refl _) _).drew, by rw [hd_eq]; exact ha_same _ _ rfl⟩
  refine wp_region_held (S := HY w xs) mixed ?_
  change wpAnyH _ _ _ _ _ _ _ _ (w.alloc (.cells (rowOf true xs) 32)).drew
  generalize (w.alloc (.cells (rowOf true xs) 32)).drew = W0 at h0 ⊢
  refine wpAnyH_all (rs := [0]) (by kernel_rfl) (by simp) ?_
  intro i hi
  obtain rfl : i = 0 := by simpa using hi
  refine t_value (v := .slice (some ⟨w.heap.size, 0, none⟩) 28 28) (some 3) rfl rfl rfl (sl_run rfl rfl _) ⟨h0, ?_⟩
  simp only [Act.put, List.setIfInBounds_toArray, List.set_cons_zero, List.set_cons_succ]
  refine wpAnyH_all (rs := [1]) (by kernel_rfl) (by simp) ?_
  intro i hi
  obtain rfl : i = 1 := by simpa using hi
  refine t_call (u := .slice (some ⟨w.heap.size, 0, none⟩) 28 28) (v := .int .i64 4) (some 4) rfl rfl rfl rfl Try.call14 rfl rfl (wordsof_any W0 w.heap.size 28 xs hlx fx (y_row h0.2) (lt_of_heap h0.2)) ?_
  rintro e W1 ⟨B, rs, rfl, hB, hrow, hwd, hlen, hq, hbel⟩
  have h1 := h0.later hbel
  refine ⟨_, rfl, h1, ?_⟩
  simp only [Act.put, List.setIfInBounds_toArray, List.set_cons_zero, List.set_cons_succ]
  refine wpAnyH_all (rs := [2]) (by kernel_rfl) (by simp) ?_
  intro i hi
  obtain rfl : i = 2 := by simpa using hi
  refine t_call0 (some 5) rfl rfl rfl rfl Try.call10 (prime_any W1) ?_
  rintro e W2 ⟨B2, ps, rfl, hB2, hrow2, _, _, hps, hbel2⟩
  have hps : ps = pws := hps
  subst hps
  have h2 := h1.later hbel2
  refine ⟨_, rfl, h2, ?_⟩
  simp only [Act.put, List.setIfInBounds_toArray, List.set_cons_zero, List.set_cons_succ]
  have hr2 : Ws W2 B rs := (row_get hrow).below hbel2 (lt_of_heap hrow)
  have hq' := Lib.hid hq
  have hlen' := Lib.hid hlen
  refine wpAnyH_all (rs := [3]) (by kernel_rfl) (by simp) ?_
  intro i hi
  obtain rfl : i = 3 := by simpa using hi
  refine t_call (u := .slice (some ⟨B, 0, none⟩) 4 4) (v := .slice (some ⟨B2, 0, none⟩) 4 4) (some 6) rfl rfl rfl rfl Try.call9 rfl rfl (less_any W2 B B2 4 4 4 rs pws ⟨hlen, rfl⟩ (by omega) hwd pws_wd hr2 (row_get hrow2)) ?_
  rintro e W3 ⟨rfl, m, rfl⟩
  have h3 := h2.drewN m
  refine ⟨_, rfl, h3, ?_⟩
  simp only [Act.put, List.setIfInBounds_toArray, List.set_cons_zero, List.set_cons_succ]
  generalize W2.drewN m = W3 at h3 ⊢
  clear hq hlen hrow hrow2 hr2 hbel hbel2 h0 h1 h2
  by_cases hlt : num rs < num pws
  · rw [decide_eq_true hlt]
    refine wpAnyH_all (rs := [4]) (by kernel_rfl) (by simp) ?_
    intro i hi
    obtain rfl : i = 4 := by simpa using hi
    refine t_value (v := .bool false) (some 7) rfl rfl rfl (rfl) ⟨h3, ?_⟩
    simp only [Act.put, List.setIfInBounds_toArray, List.set_cons_zero, List.set_cons_succ]
    refine wpAnyH_all (rs := [5]) (by kernel_rfl) (by simp) ?_
    intro i hi
    obtain rfl : i = 5 := by simpa using hi
    refine t_value (v := .bool false) (some 8) rfl rfl rfl (rfl) ⟨h3, ?_⟩
    simp only [Act.put, List.setIfInBounds_toArray, List.set_cons_zero, List.set_cons_succ]
    refine t_yield (v := .agg (rowOf true xs)) 6 (some 9) rfl rfl (by kernel_rfl) (by kernel_rfl) (by kernel_rfl) (fun _ _ _ h => h) (y_loadY rfl rfl rfl hlx.out) h3 ?_
    simp only [Act.put, List.setIfInBounds_toArray, List.set_cons_zero, List.set_cons_succ]
    refine t_yield (v := .agg (rowOf true xs)) 9 (some 12) rfl rfl (by kernel_rfl) (by kernel_rfl) (by kernel_rfl) (fun _ _ _ h => h) (y_loadY rfl rfl rfl hlx.out) h3 ?_
    simp only [Act.put, List.setIfInBounds_toArray, List.set_cons_zero, List.set_cons_succ]
    refine wpAnyH_all (rs := [7]) (by kernel_rfl) (by simp) ?_
    intro i hi
    obtain rfl : i = 7 := by simpa using hi
    refine t_call1 (u := .agg (rowOf true xs)) (some 10) rfl rfl rfl rfl Try.call15 rfl (im_from _ xs hlx.out fx) ?_
    rintro e W4 ⟨rs2, rfl, ⟨hq2, hlen2⟩, hwd2, hb2⟩
    have h4 := h3.later hb2
    refine ⟨_, rfl, h4, ?_⟩
    simp only [Act.put, List.setIfInBounds_toArray, List.set_cons_zero, List.set_cons_succ]
    refine wpAnyH_all (rs := [8]) (by kernel_rfl) (by simp) ?_
    intro i hi
    obtain rfl : i = 8 := by simpa using hi
    refine t_call1 (u := .agg (rowOf false rs2)) (some 11) rfl rfl rfl rfl Try.call17 rfl (im_to _ rs2 hlen2 hwd2) ?_
    rintro e W5 ⟨bs, rfl, ⟨hq5, hlen5⟩, hwd5, hb5⟩
    have h5 := h4.later hb5
    refine ⟨_, rfl, h5, ?_⟩
    simp only [Act.put, List.setIfInBounds_toArray, List.set_cons_zero, List.set_cons_succ]
    have e5 : xs = bs := back_same hlx.out fx hlen5 hq2 hq5
    subst e5
    refine wpAnyH_all (rs := [10]) (by kernel_rfl) (by simp) ?_
    intro i hi
    obtain rfl : i = 10 := by simpa using hi
    refine t_value (v := .bool true) (some 13) rfl rfl rfl (run_eql_row true xs rfl eqgY Try.underlying32 Try.underlying5 hiY hsY hlx.out rfl rfl) ⟨h5, ?_⟩
    simp only [Act.put, List.setIfInBounds_toArray, List.set_cons_zero, List.set_cons_succ]
    refine wpAnyH_all (rs := [11]) (by kernel_rfl) (by simp) ?_
    intro i hi
    obtain rfl : i = 11 := by simpa using hi
    refine t_value (v := .bool true) (some 14) rfl rfl rfl (rfl) ⟨h5, ?_⟩
    simp only [Act.put, List.setIfInBounds_toArray, List.set_cons_zero, List.set_cons_succ]
    refine wpAnyH_all (rs := [12]) (by kernel_rfl) (by simp) ?_
    intro i hi
    obtain rfl : i = 12 := by simpa using hi
    refine t_value (v := .bool true) (some 2) rfl rfl rfl (rfl) ⟨h5, ?_⟩
    simp only [Act.put, List.setIfInBounds_toArray, List.set_cons_zero, List.set_cons_succ]
    refine wpAnyH_done (by kernel_rfl) ?_ 0
    have hfin := h5.1
    clear h3 h4 h5 hb2 hb5 hq2 hq5 hlen2 hlen5
    go_wp2_with fail
    go_ret
    exact ⟨rfl, hfin⟩
  · rw [decide_eq_false hlt]
    refine wpAnyH_all (rs := [4]) (by kernel_rfl) (by simp) ?_
    intro i hi
    obtain rfl : i = 4 := by simpa using hi
    refine t_value (v := .bool true) (some 7) rfl rfl rfl (rfl) ⟨h3, ?_⟩
    simp only [Act.put, List.setIfInBounds_toArray, List.set_cons_zero, List.set_cons_succ]
    refine wpAnyH_all (rs := [5]) (by kernel_rfl) (by simp) ?_
    intro i hi
    obtain rfl : i = 5 := by simpa using hi
    refine t_value (v := .bool true) (some 8) rfl rfl rfl (rfl) ⟨h3, ?_⟩
    simp only [Act.put, List.setIfInBounds_toArray, List.set_cons_zero, List.set_cons_succ]
    refine t_skip 6 (some 9) rfl rfl (by kernel_rfl) (by kernel_rfl) (by kernel_rfl) (fun _ _ _ h => h) rfl h3 ?_
    simp only [Act.put, List.setIfInBounds_toArray, List.set_cons_zero, List.set_cons_succ]
    refine t_skip 9 (some 12) rfl rfl (by kernel_rfl) (by kernel_rfl) (by kernel_rfl) (fun _ _ _ h => h) rfl h3 ?_
    simp only [Act.put, List.setIfInBounds_toArray, List.set_cons_zero, List.set_cons_succ]
    refine t_skip 7 (some 10) rfl rfl (by kernel_rfl) (by kernel_rfl) (by kernel_rfl) (fun _ _ _ h => h) rfl h3 ?_
    simp only [Act.put, List.setIfInBounds_toArray, List.set_cons_zero, List.set_cons_succ]
    refine t_skip 8 (some 11) rfl rfl (by kernel_rfl) (by kernel_rfl) (by kernel_rfl) (fun _ _ _ h => h) rfl h3 ?_
    simp only [Act.put, List.setIfInBounds_toArray, List.set_cons_zero, List.set_cons_succ]
    refine t_skip 10 (some 13) rfl rfl (by kernel_rfl) (by kernel_rfl) (by kernel_rfl) (fun _ _ _ h => h) rfl h3 ?_
    simp only [Act.put, List.setIfInBounds_toArray, List.set_cons_zero, List.set_cons_succ]
    refine wpAnyH_all (rs := [11]) (by kernel_rfl) (by simp) ?_
    intro i hi
    obtain rfl : i = 11 := by simpa using hi
    refine t_value (v := .bool true) (some 14) rfl rfl rfl (rfl) ⟨h3, ?_⟩
    simp only [Act.put, List.setIfInBounds_toArray, List.set_cons_zero, List.set_cons_succ]
    refine wpAnyH_all (rs := [12]) (by kernel_rfl) (by simp) ?_
    intro i hi
    obtain rfl : i = 12 := by simpa using hi
    refine t_value (v := .bool true) (some 2) rfl rfl rfl (rfl) ⟨h3, ?_⟩
    simp only [Act.put, List.setIfInBounds_toArray, List.set_cons_zero, List.set_cons_succ]
    refine wpAnyH_done (by kernel_rfl) ?_ 0
    have hfin := h3.1
    clear h3
    go_wp2_with fail
    go_ret
    exact ⟨rfl, hfin⟩

end Go.Proofs.Ytoiiihnjfhdnlaa
