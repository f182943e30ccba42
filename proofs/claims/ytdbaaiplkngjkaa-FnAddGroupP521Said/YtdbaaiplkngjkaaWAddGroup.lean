/-
  The law's walk: FnAddGroupP521.
-/
import Derived.Test.YtdbaaiplkngjkaaWSub
import Derived.Test.YtdbaaiplkngjkaaReg
namespace Go.Proofs.Ytdbaaiplkngjkaa
open Go Go.RowKit

theorem hold3 (w : World) (xs ys zs : List Nat) (t : TypeId) : Hold w [(w.heap.size + 1 + 1, zs), (w.heap.size + 1, ys), (w.heap.size, xs)] (((w.alloc (.cells (rowOf false xs) t)).alloc (.cells (rowOf false ys) t)).alloc (.cells (rowOf false zs) t)) :=
  (hold2 w xs ys t).box zs t (by simp)

theorem grp1 (a b d p : Nat) : ((a + b) % p + d) % p = (a + (b + d) % p) % p := by
  rw [Nat.mod_add_mod, Nat.add_mod_mod, Nat.add_assoc]

theorem grp2 (a b d p : Nat) (ha : a < p) : (((a + b) % p + d) % p + p - (b + d) % p) % p = a := by
  rw [grp1]
  have hB : (b + d) % p < p := Nat.mod_lt _ (by omega)
  generalize (b + d) % p = B at *
  rcases Nat.lt_or_ge (a + B) p with h | h
  · rw [Nat.mod_eq_of_lt h, show a + B + p - B = a + p by omega, Nat.add_mod_right, Nat.mod_eq_of_lt ha]
  · rw [Nat.mod_eq_sub_mod h, Nat.mod_eq_of_lt (show a + B - p < p by omega), show a + B - p + p - B = a by omega, Nat.mod_eq_of_lt ha]

section
variable {P : Program} {ops : Array Oper} {Q : Exit → Act → World → Prop} {a : Act} {w : World} {i : Nat} {o : Oper} {K : Act → World → Prop}
theorem t_call {f : FuncId} {x y : Operand} {ts : Array TypeId} {u v : Value} {R : Ending → World → Prop} (d : Option Nat) (hi : ops[i]? = some o) (hd : o.dst = d) (ho : o.op = .call ⟨.value (.func f), #[x, y], ts⟩)
    (hw : Region.wanted o (yielded ops a.tmps) = true) (hrun : ∀ vs w, (callFunc f vs).run P w = .ok (.enter f vs) w) (hx : a.eval x = u) (hy : a.eval y = v) (hc : Calls P f #[u, v] w R) (hR : ∀ e w', R e w' → ∃ v, e = .returned v ∧ K (a.put d v) w') :
    wpOp P ops Q i K a w := o_call hi ho hw hrun (by simp [hx, hy]) hc (by rw [hd]; exact hR)
theorem t_value {v : Value} {w' : World} (d : Option Nat) (hi : ops[i]? = some o) (hd : o.dst = d) (hw : Region.wanted o (yielded ops a.tmps) = true) (hrun : (execOp a.eval o).run P w = .ok (.value v) w') (hK : K (a.put d v) w') :
    wpOp P ops Q i K a w := o_value hi hw hrun (by rw [hd]; exact hK)
theorem t_store {ty : TypeId} {x y : Operand} {g t : Nat} {cells old : Array Value} (hi : ops[i]? = some o) (hd : o.dst = none) (ho : o.op = .store ty x y) (hw : Region.wanted o (yielded ops a.tmps) = true)
    (hx : a.eval x = .pointer (some ⟨g, 0, none⟩)) (hy : a.eval y = .agg cells) (hg : w.heap[g]? = some (.cells old t (0, 0))) (hs : (P.info? ty).map (·.size) = some cells.size) (hold : old.size = cells.size) (h1 : cells.all (·.oneCell') = true)
    (hK : K a (w.setRow g cells)) : wpOp P ops Q i K a w := O_store hi ho hw hx hy hg hs hold h1 (by rw [hd]; exact hK)
theorem t_load {w0 : World} {bs : List (Nat × List Nat)} {t e n b : Nat} {xs : List Nat} {x : Operand} {it : TypeInfo} {fuel : Nat} {listed : Array Bool} (i : Nat) (d : Option Nat) (hi : ops[i]? = some o) (hd : o.dst = d)
    (hs : Region.noSelect ops = true) (hf : Region.free .any ops listed i = true) (hr : (Region.ready .any ops listed).contains i = true)
    (hQ : ∀ c a w, Q (.panic c) (a.put d (.agg (rowOf false xs))) w → Q (.panic c) a w)
    (ho : o.op = .load t x) (hw : Region.wanted o (yielded ops a.tmps) = true) (hx : a.eval x = .pointer (some ⟨b, 0, none⟩))
    (ht : P.underlying t = some (.array n e)) (hit : P.info? t = some it) (hsz : it.size = n) (hm : (b, xs) ∈ bs) (hl : xs.length = n) (hS : Hold w0 bs w)
    (h : wpAnyH P .any ops Q (Hold w0 bs) fuel (listed.setIfInBounds i true) (a.put d (.agg (rowOf false xs))) w) : wpAnyH P .any ops Q (Hold w0 bs) (fuel + 1) listed a w :=
  wpAnyH_take hi hs hf hr (by rw [hd]; exact hQ) (y_load ho hw hx ht hit hsz hm hl) hS (by rw [hd]; exact h)
end

theorem Hold.putRow {w0 W : World} {bs : List (Nat × List Nat)} (h : Hold w0 bs W) {g t : Nat} {old : Array Value} (hr : W.heap[g]? = some (.cells old t (0, 0))) (hg : w0.heap.size ≤ g) (hn : ∀ b xs, (b, xs) ∈ bs → b < g) (rs : List Nat) : Hold w0 ((g, rs) :: bs) (W.setRow g (rowOf false rs)) :=
  (h.setRow _ hg (fun b xs hm => Nat.ne_of_lt (hn b xs hm))).more (setRow_heap _ _ _ _ _ _ hr)

theorem eqg : Try.prog.eqGuardType Try.prog.depth 25 = false := by kernel_rfl
theorem mod_lt_p (n : Nat) : n % num pws < num pws := Nat.mod_lt _ (by decide +kernel)

set_option maxHeartbeats 2000000 in
theorem w_group_1 (w : World) (xs ys zs : List Nat) (nx : xs.length = 9) (ny : ys.length = 9) (nz : zs.length = 9) (wx : Wd xs) (b1 : decide (num xs < num pws) = false) :
    Calls Try.prog 5 #[.agg (rowOf false xs), .agg (rowOf false ys), .agg (rowOf false zs)] w fun e w' => e = .returned (.bool true) ∧ Below w.heap.size w w' := by
  have hlx := Lib.hid nx
  have hly := Lib.hid ny
  have hlz := Lib.hid nz
  clear nx ny nz
  have h0 := Lib.hid (hold3 w xs ys zs 25)
  have b1' := Lib.hid b1
  clear b1
  go_enter Try.func5, Try.ntmps5
  go_wp2_with fail
  refine wp_region_steady hts mixed (by kernel_rfl) (fun _ _ d _ _ h => by cases d <;> exact h) ?_
  go_wp2_with fail
  refine (prime_hold h0.out.drew).mono ?_
  rintro e W1 ⟨B1, rs, rfl, rfl, _, _, h1⟩
  go_wp2_with fail
  refine (less_hold xs pws h1 (by simp) (by simp) hlx.out rfl wx pws_wd false b1'.out).mono ?_
  rintro e W2 ⟨rfl, h2⟩
  go_wp2_with fail
  go_ret
  exact ⟨rfl, h2.below⟩

set_option maxHeartbeats 2000000 in
theorem w_group_2 (w : World) (xs ys zs : List Nat) (nx : xs.length = 9) (ny : ys.length = 9) (nz : zs.length = 9) (wx : Wd xs) (wy : Wd ys) (b1 : decide (num xs < num pws) = true) (b2 : decide (num ys < num pws) = false) :
    Calls Try.prog 5 #[.agg (rowOf false xs), .agg (rowOf false ys), .agg (rowOf false zs)] w fun e w' => e = .returned (.bool true) ∧ Below w.heap.size w w' := by
  have hlx := Lib.hid nx
  have hly := Lib.hid ny
  have hlz := Lib.hid nz
  clear nx ny nz
  have h0 := Lib.hid (hold3 w xs ys zs 25)
  have b1' := Lib.hid b1
  have b2' := Lib.hid b2
  clear b1 b2
  go_enter Try.func5, Try.ntmps5
  go_wp2_with fail
  refine wp_region_steady hts mixed (by kernel_rfl) (fun _ _ d _ _ h => by cases d <;> exact h) ?_
  go_wp2_with fail
  refine (prime_hold h0.out.drew).mono ?_
  rintro e W1 ⟨B1, rs, rfl, rfl, _, _, h1⟩
  go_wp2_with fail
  refine (less_hold xs pws h1 (by simp) (by simp) hlx.out rfl wx pws_wd true b1'.out).mono ?_
  rintro e W2 ⟨rfl, h2⟩
  go_wp2_with fail
  refine (prime_hold h2).mono ?_
  rintro e W3 ⟨B2, rs, rfl, rfl, _, _, h3⟩
  go_wp2_with fail
  refine (less_hold ys pws h3 (by simp) (by simp) hly.out rfl wy pws_wd false b2'.out).mono ?_
  rintro e W4 ⟨rfl, h4⟩
  go_wp2_with fail
  go_ret
  exact ⟨rfl, h4.below⟩

set_option maxHeartbeats 2000000 in
theorem w_group_3 (w : World) (xs ys zs : List Nat) (nx : xs.length = 9) (ny : ys.length = 9) (nz : zs.length = 9) (wx : Wd xs) (wy : Wd ys) (wz : Wd zs) (b1 : decide (num xs < num pws) = true) (b2 : decide (num ys < num pws) = true) (b3 : decide (num zs < num pws) = false) :
    Calls Try.prog 5 #[.agg (rowOf false xs), .agg (rowOf false ys), .agg (rowOf false zs)] w fun e w' => e = .returned (.bool true) ∧ Below w.heap.size w w' := by
  have hlx := Lib.hid nx
  have hly := Lib.hid ny
  have hlz := Lib.hid nz
  clear nx ny nz
  have h0 := Lib.hid (hold3 w xs ys zs 25)
  have b1' := Lib.hid b1
  have b2' := Lib.hid b2
  have b3' := Lib.hid b3
  clear b1 b2 b3
  go_enter Try.func5, Try.ntmps5
  go_wp2_with fail
  refine wp_region_steady hts mixed (by kernel_rfl) (fun _ _ d _ _ h => by cases d <;> exact h) ?_
  go_wp2_with fail
  refine (prime_hold h0.out.drew).mono ?_
  rintro e W1 ⟨B1, rs, rfl, rfl, _, _, h1⟩
  go_wp2_with fail
  refine (less_hold xs pws h1 (by simp) (by simp) hlx.out rfl wx pws_wd true b1'.out).mono ?_
  rintro e W2 ⟨rfl, h2⟩
  go_wp2_with fail
  refine (prime_hold h2).mono ?_
  rintro e W3 ⟨B2, rs, rfl, rfl, _, _, h3⟩
  go_wp2_with fail
  refine (less_hold ys pws h3 (by simp) (by simp) hly.out rfl wy pws_wd true b2'.out).mono ?_
  rintro e W4 ⟨rfl, h4⟩
  go_wp2_with fail
  refine (prime_hold h4).mono ?_
  rintro e W5 ⟨B3, rs, rfl, rfl, _, _, h5⟩
  go_wp2_with fail
  refine (less_hold zs pws h5 (by simp) (by simp) hlz.out rfl wz pws_wd false b3'.out).mono ?_
  rintro e W6 ⟨rfl, h6⟩
  go_wp2_with fail
  go_ret
  exact ⟨rfl, h6.below⟩

set_option maxHeartbeats 2000000 in
theorem w_group_4 (w : World) (xs ys zs : List Nat) (nx : xs.length = 9) (ny : ys.length = 9) (nz : zs.length = 9) (wx : Wd xs) (wy : Wd ys) (wz : Wd zs) (b1 : decide (num xs < num pws) = true) (b2 : decide (num ys < num pws) = true) (b3 : decide (num zs < num pws) = true) :
    Calls Try.prog 5 #[.agg (rowOf false xs), .agg (rowOf false ys), .agg (rowOf false zs)] w fun e w' => e = .returned (.bool true) ∧ Below w.heap.size w w' := by
  have hlx := Lib.hid nx
  have hly := Lib.hid ny
  have hlz := Lib.hid nz
  clear nx ny nz
  have h0 := Lib.hid (hold3 w xs ys zs 25)
  have b1' := Lib.hid b1
  have b2' := Lib.hid b2
  have b3' := Lib.hid b3
  clear b1 b2 b3
  go_enter Try.func5, Try.ntmps5
  go_wp2_with fail
  refine wp_region_steady hts mixed (by kernel_rfl) (fun _ _ d _ _ h => by cases d <;> exact h) ?_
  go_wp2_with fail
  refine (prime_hold h0.out.drew).mono ?_
  rintro e W1 ⟨B1, rs, rfl, rfl, _, _, h1⟩
  go_wp2_with fail
  refine (less_hold xs pws h1 (by simp) (by simp) hlx.out rfl wx pws_wd true b1'.out).mono ?_
  rintro e W2 ⟨rfl, h2⟩
  go_wp2_with fail
  refine (prime_hold h2).mono ?_
  rintro e W3 ⟨B2, rs, rfl, rfl, _, _, h3⟩
  go_wp2_with fail
  refine (less_hold ys pws h3 (by simp) (by simp) hly.out rfl wy pws_wd true b2'.out).mono ?_
  rintro e W4 ⟨rfl, h4⟩
  go_wp2_with fail
  refine (prime_hold h4).mono ?_
  rintro e W5 ⟨B3, rs, rfl, rfl, _, _, h5⟩
  go_wp2_with fail
  refine (less_hold zs pws h5 (by simp) (by simp) hlz.out rfl wz pws_wd true b3'.out).mono ?_
  rintro e W6 ⟨rfl, h6⟩
  have lx := Lib.hid (of_decide_eq_true b1'.out)
  have ly := Lib.hid (of_decide_eq_true b2'.out)
  have lz := Lib.hid (of_decide_eq_true b3'.out)
  clear b1' b2' b3'
  obtain ⟨iR, hiR, hsR, hzR⟩ := info_of infoT
  obtain ⟨iE, hiE, hsE⟩ := size_of sizeW
  go_wp2_with fail
  clear h0
  have hS : Hold w [(w.heap.size + 1 + 1, zs), (w.heap.size + 1, ys), (w.heap.size, xs)] W6.drew := (h6.sub (by simp)).drew
  clear h1 h2 h3 h4 h5 h6
  refine wp_region_held (S := Hold w [(w.heap.size + 1 + 1, zs), (w.heap.size + 1, ys), (w.heap.size, xs)]) mixed ?_
  refine t_load (b := w.heap.size) (xs := xs) 0 (some 24) rfl rfl (by kernel_rfl) (by kernel_rfl) (by kernel_rfl) (fun _ _ _ h => h) rfl rfl rfl Try.underlying25 hiR hsR (by simp) hlx.out hS ?_
  simp only [Act.put, List.setIfInBounds_toArray, List.set_cons_zero, List.set_cons_succ]
  refine t_load (b := w.heap.size + 1) (xs := ys) 1 (some 25) rfl rfl (by kernel_rfl) (by kernel_rfl) (by kernel_rfl) (fun _ _ _ h => h) rfl rfl rfl Try.underlying25 hiR hsR (by simp) hly.out hS ?_
  simp only [Act.put, List.setIfInBounds_toArray, List.set_cons_zero, List.set_cons_succ]
  refine t_load (b := w.heap.size + 1 + 1) (xs := zs) 3 (some 27) rfl rfl (by kernel_rfl) (by kernel_rfl) (by kernel_rfl) (fun _ _ _ h => h) rfl rfl rfl Try.underlying25 hiR hsR (by simp) hlz.out hS ?_
  simp only [Act.put, List.setIfInBounds_toArray, List.set_cons_zero, List.set_cons_succ]
  have hdr : W6.drew = { W6 with drawn := W6.drawn + 1 } := rfl
  rw [← hdr]
  generalize W6.drew = V0 at hS ⊢
  refine wpAnyH_all (rs := [2, 5]) (by kernel_rfl) (by simp) ?_
  intro i hi
  simp only [List.mem_cons, List.not_mem_nil, or_false] at hi
  rcases hi with rfl | rfl
  · skip
    refine t_call (u := .agg (rowOf false xs)) (v := .agg (rowOf false ys)) (some 26) rfl rfl rfl rfl Try.call12 rfl rfl (im_add _ xs ys hlx.out hly.out lx.out ly.out wx wy) ?_
    rintro e V1 ⟨r1, rfl, ⟨q1, n1⟩, d1, b1⟩
    have S1 := (hS).later b1
    have q1 := Lib.hid q1
    have n1 := Lib.hid n1
    refine ⟨_, rfl, S1, ?_⟩
    simp only [Act.put, List.setIfInBounds_toArray, List.set_cons_zero, List.set_cons_succ]
    refine wpAnyH_all (rs := [4, 5]) (by kernel_rfl) (by simp) ?_
    intro i hi
    simp only [List.mem_cons, List.not_mem_nil, or_false] at hi
    rcases hi with rfl | rfl
    · skip
      refine t_call (u := .agg (rowOf false r1)) (v := .agg (rowOf false zs)) (some 28) rfl rfl rfl rfl Try.call12 rfl rfl (im_add _ r1 zs n1.out hlz.out (by rw [q1.out]; exact mod_lt_p _) lz.out d1 wz) ?_
      rintro e V2 ⟨r2, rfl, ⟨q2, n2⟩, d2, b2⟩
      have S2 := (S1).later b2
      have q2 := Lib.hid q2
      have n2 := Lib.hid n2
      refine ⟨_, rfl, S2, ?_⟩
      simp only [Act.put, List.setIfInBounds_toArray, List.set_cons_zero, List.set_cons_succ]
      refine wpAnyH_all (rs := [5]) (by kernel_rfl) (by simp) ?_
      intro i hi
      obtain rfl : i = 5 := by simpa using hi
      have hL := Lib.hid (show (∀ b l, (b, l) ∈ [(w.heap.size + 1 + 1, zs), (w.heap.size + 1, ys), (w.heap.size, xs)] → b < V2.heap.size) ∧ w.heap.size ≤ V2.heap.size from ⟨fun b l hm => (S2.rows b l hm).2, S2.below.size⟩)
      have A3 := (S2).later ((Below.refl _ _).alloc (Nat.le_refl _) (.cells (rowOf false zeros) 25))
      refine t_value (some 7) rfl rfl rfl (run_alloc rfl hiR hzR) ⟨A3, ?_⟩
      simp only [Act.put, List.setIfInBounds_toArray, List.set_cons_zero, List.set_cons_succ]
      have hA : (V2.alloc (.cells (rowOf false zeros) 25)).heap[V2.heap.size]? = some (.cells (rowOf false zeros) 25 (0, 0)) := ha_same _ _ rfl
      have hlt : V2.heap.size < (V2.alloc (.cells (rowOf false zeros) 25)).heap.size := by simp
      generalize V2.alloc (.cells (rowOf false zeros) 25) = VA at A3 hA hlt ⊢
      generalize V2.heap.size = L at hL hA hlt ⊢
      have hL := hL.out
      have hrow : VA.heap[L]? = some (.cells (rowOf false zeros) 25 (0, 0)) := hA
      have S4 := (A3).putRow hrow hL.2 hL.1 r2
      refine wpAnyH_all (rs := [6]) (by kernel_rfl) (by simp) ?_
      intro i hi
      obtain rfl : i = 6 := by simpa using hi
      refine t_store (g := L) (old := rowOf false zeros) (cells := rowOf false r2) rfl rfl rfl rfl rfl rfl (by exact hrow) (by rw [infoR, size_row, n2.out]) (by rw [size_row, size_row, n2.out]; rfl) (one_row _) ⟨S4.sub (by simp), ?_⟩
      refine wpAnyH_done (by kernel_rfl) ?_ 0
      generalize (VA).setRow L (rowOf false r2) = V9 at S4 ⊢
      clear hrow
      try clear S1
      try clear S2
      try clear S3
      try clear b1
      try clear b2
      try clear hS
      have hL := Lib.hid hL
      go_wp2_with fail
      refine wp_region_held (S := Hold w [(L, r2), (w.heap.size + 1 + 1, zs), (w.heap.size + 1, ys), (w.heap.size, xs)]) mixed ?_
      have S5 := S4.drew
      change wpAnyH _ _ _ _ _ _ _ _ V9.drew
      generalize V9.drew = V10 at S5 ⊢
      refine t_load (b := L) (xs := r2) 0 (some 29) rfl rfl (by kernel_rfl) (by kernel_rfl) (by kernel_rfl) (fun _ _ _ h => h) rfl rfl rfl Try.underlying25 hiR hsR (by simp) n2.out S5 ?_
      simp only [Act.put, List.setIfInBounds_toArray, List.set_cons_zero, List.set_cons_succ]
      refine t_load (b := w.heap.size) (xs := xs) 1 (some 30) rfl rfl (by kernel_rfl) (by kernel_rfl) (by kernel_rfl) (fun _ _ _ h => h) rfl rfl rfl Try.underlying25 hiR hsR (by simp) hlx.out S5 ?_
      simp only [Act.put, List.setIfInBounds_toArray, List.set_cons_zero, List.set_cons_succ]
      refine t_load (b := w.heap.size + 1) (xs := ys) 2 (some 31) rfl rfl (by kernel_rfl) (by kernel_rfl) (by kernel_rfl) (fun _ _ _ h => h) rfl rfl rfl Try.underlying25 hiR hsR (by simp) hly.out S5 ?_
      simp only [Act.put, List.setIfInBounds_toArray, List.set_cons_zero, List.set_cons_succ]
      refine t_load (b := w.heap.size + 1 + 1) (xs := zs) 3 (some 32) rfl rfl (by kernel_rfl) (by kernel_rfl) (by kernel_rfl) (fun _ _ _ h => h) rfl rfl rfl Try.underlying25 hiR hsR (by simp) hlz.out S5 ?_
      simp only [Act.put, List.setIfInBounds_toArray, List.set_cons_zero, List.set_cons_succ]
      refine wpAnyH_all (rs := [4]) (by kernel_rfl) (by simp) ?_
      intro i hi
      obtain rfl : i = 4 := by simpa using hi
      refine t_call (u := .agg (rowOf false ys)) (v := .agg (rowOf false zs)) (some 33) rfl rfl rfl rfl Try.call12 rfl rfl (im_add _ ys zs hly.out hlz.out ly.out lz.out wy wz) ?_
      rintro e V3 ⟨r3, rfl, ⟨q3, n3⟩, d3, b3⟩
      have S3 := (S5).later b3
      have q3 := Lib.hid q3
      have n3 := Lib.hid n3
      refine ⟨_, rfl, S3, ?_⟩
      simp only [Act.put, List.setIfInBounds_toArray, List.set_cons_zero, List.set_cons_succ]
      refine wpAnyH_all (rs := [5]) (by kernel_rfl) (by simp) ?_
      intro i hi
      obtain rfl : i = 5 := by simpa using hi
      refine t_call (u := .agg (rowOf false xs)) (v := .agg (rowOf false r3)) (some 34) rfl rfl rfl rfl Try.call12 rfl rfl (im_add _ xs r3 hlx.out n3.out lx.out (by rw [q3.out]; exact mod_lt_p _) wx d3) ?_
      rintro e V4 ⟨r4, rfl, ⟨q4, n4⟩, d4, b4⟩
      have S4 := (S3).later b4
      have q4 := Lib.hid q4
      have n4 := Lib.hid n4
      refine ⟨_, rfl, S4, ?_⟩
      simp only [Act.put, List.setIfInBounds_toArray, List.set_cons_zero, List.set_cons_succ]
      have e24 : r2 = r4 := num_inj d2 d4 (by rw [n4.out, n2.out]) (by rw [q4.out, q3.out, q2.out, q1.out]; exact grp1 _ _ _ _)
      subst e24
      refine wpAnyH_all (rs := [6]) (by kernel_rfl) (by simp) ?_
      intro i hi
      obtain rfl : i = 6 := by simpa using hi
      refine t_value (some 35) rfl rfl rfl (run_eql_row false r2 rfl eqg Try.underlying25 Try.underlying22 hiE hsE n2.out rfl rfl) ⟨S4, ?_⟩
      simp only [Act.put, List.setIfInBounds_toArray, List.set_cons_zero, List.set_cons_succ]
      refine wpAnyH_all (rs := [7]) (by kernel_rfl) (by simp) ?_
      intro i hi
      obtain rfl : i = 7 := by simpa using hi
      refine t_value (v := .bool true) (some 36) rfl rfl rfl rfl ⟨S4, ?_⟩
      simp only [Act.put, List.setIfInBounds_toArray, List.set_cons_zero, List.set_cons_succ]
      refine t_load (b := L) (xs := r2) 8 (some 37) rfl rfl (by kernel_rfl) (by kernel_rfl) (by kernel_rfl) (fun _ _ _ h => h) rfl rfl rfl Try.underlying25 hiR hsR (by simp) n2.out S4 ?_
      simp only [Act.put, List.setIfInBounds_toArray, List.set_cons_zero, List.set_cons_succ]
      refine t_load (b := w.heap.size + 1) (xs := ys) 9 (some 38) rfl rfl (by kernel_rfl) (by kernel_rfl) (by kernel_rfl) (fun _ _ _ h => h) rfl rfl rfl Try.underlying25 hiR hsR (by simp) hly.out S4 ?_
      simp only [Act.put, List.setIfInBounds_toArray, List.set_cons_zero, List.set_cons_succ]
      refine t_load (b := w.heap.size + 1 + 1) (xs := zs) 10 (some 39) rfl rfl (by kernel_rfl) (by kernel_rfl) (by kernel_rfl) (fun _ _ _ h => h) rfl rfl rfl Try.underlying25 hiR hsR (by simp) hlz.out S4 ?_
      simp only [Act.put, List.setIfInBounds_toArray, List.set_cons_zero, List.set_cons_succ]
      refine t_load (b := w.heap.size) (xs := xs) 13 (some 42) rfl rfl (by kernel_rfl) (by kernel_rfl) (by kernel_rfl) (fun _ _ _ h => h) rfl rfl rfl Try.underlying25 hiR hsR (by simp) hlx.out S4 ?_
      simp only [Act.put, List.setIfInBounds_toArray, List.set_cons_zero, List.set_cons_succ]
      refine wpAnyH_all (rs := [11]) (by kernel_rfl) (by simp) ?_
      intro i hi
      obtain rfl : i = 11 := by simpa using hi
      refine t_call (u := .agg (rowOf false ys)) (v := .agg (rowOf false zs)) (some 40) rfl rfl rfl rfl Try.call12 rfl rfl (im_add _ ys zs hly.out hlz.out ly.out lz.out wy wz) ?_
      rintro e V5 ⟨r5, rfl, ⟨q5, n5⟩, d5, b5⟩
      have S5 := (S4).later b5
      have q5 := Lib.hid q5
      have n5 := Lib.hid n5
      refine ⟨_, rfl, S5, ?_⟩
      simp only [Act.put, List.setIfInBounds_toArray, List.set_cons_zero, List.set_cons_succ]
      refine wpAnyH_all (rs := [12]) (by kernel_rfl) (by simp) ?_
      intro i hi
      obtain rfl : i = 12 := by simpa using hi
      refine t_call (u := .agg (rowOf false r2)) (v := .agg (rowOf false r5)) (some 41) rfl rfl rfl rfl Try.call9 rfl rfl (im_sub _ r2 r5 n2.out n5.out (by rw [q2.out]; exact mod_lt_p _) (by rw [q5.out]; exact mod_lt_p _) d2 d5) ?_
      rintro e V6 ⟨r6, rfl, ⟨q6, n6⟩, d6, b6⟩
      have S6 := (S5).later b6
      have q6 := Lib.hid q6
      have n6 := Lib.hid n6
      refine ⟨_, rfl, S6, ?_⟩
      simp only [Act.put, List.setIfInBounds_toArray, List.set_cons_zero, List.set_cons_succ]
      have e6 : xs = r6 := num_inj wx d6 (by rw [n6.out, hlx.out]) (by rw [q6.out, q5.out, q2.out, q1.out]; exact (grp2 _ _ _ _ lx.out).symm)
      subst e6
      refine wpAnyH_all (rs := [14]) (by kernel_rfl) (by simp) ?_
      intro i hi
      obtain rfl : i = 14 := by simpa using hi
      refine t_value (some 43) rfl rfl rfl (run_eql_row false xs rfl eqg Try.underlying25 Try.underlying22 hiE hsE hlx.out rfl rfl) ⟨S6, ?_⟩
      simp only [Act.put, List.setIfInBounds_toArray, List.set_cons_zero, List.set_cons_succ]
      refine wpAnyH_all (rs := [15]) (by kernel_rfl) (by simp) ?_
      intro i hi
      obtain rfl : i = 15 := by simpa using hi
      refine t_value (v := .bool true) (some 44) rfl rfl rfl rfl ⟨S6, ?_⟩
      simp only [Act.put, List.setIfInBounds_toArray, List.set_cons_zero, List.set_cons_succ]
      refine wpAnyH_all (rs := [16]) (by kernel_rfl) (by simp) ?_
      intro i hi
      obtain rfl : i = 16 := by simpa using hi
      refine t_value (v := .bool true) (some 6) rfl rfl rfl rfl ⟨S6, ?_⟩
      simp only [Act.put, List.setIfInBounds_toArray, List.set_cons_zero, List.set_cons_succ]
      refine wpAnyH_done (by kernel_rfl) ?_ 0
      have hfin := S6.below
      clear S3 S4 S5 S6
      go_wp2_with fail
      go_ret
      exact ⟨rfl, hfin⟩
    · skip
      have hL := Lib.hid (show (∀ b l, (b, l) ∈ [(w.heap.size + 1 + 1, zs), (w.heap.size + 1, ys), (w.heap.size, xs)] → b < V1.heap.size) ∧ w.heap.size ≤ V1.heap.size from ⟨fun b l hm => (S1.rows b l hm).2, S1.below.size⟩)
      have A3 := (S1).later ((Below.refl _ _).alloc (Nat.le_refl _) (.cells (rowOf false zeros) 25))
      refine t_value (some 7) rfl rfl rfl (run_alloc rfl hiR hzR) ⟨A3, ?_⟩
      simp only [Act.put, List.setIfInBounds_toArray, List.set_cons_zero, List.set_cons_succ]
      have hA : (V1.alloc (.cells (rowOf false zeros) 25)).heap[V1.heap.size]? = some (.cells (rowOf false zeros) 25 (0, 0)) := ha_same _ _ rfl
      have hlt : V1.heap.size < (V1.alloc (.cells (rowOf false zeros) 25)).heap.size := by simp
      generalize V1.alloc (.cells (rowOf false zeros) 25) = VA at A3 hA hlt ⊢
      generalize V1.heap.size = L at hL hA hlt ⊢
      have hL := hL.out
      refine wpAnyH_all (rs := [4]) (by kernel_rfl) (by simp) ?_
      intro i hi
      obtain rfl : i = 4 := by simpa using hi
      refine t_call (u := .agg (rowOf false r1)) (v := .agg (rowOf false zs)) (some 28) rfl rfl rfl rfl Try.call12 rfl rfl (im_add _ r1 zs n1.out hlz.out (by rw [q1.out]; exact mod_lt_p _) lz.out d1 wz) ?_
      rintro e V2 ⟨r2, rfl, ⟨q2, n2⟩, d2, b2⟩
      have S2 := (A3).later b2
      have q2 := Lib.hid q2
      have n2 := Lib.hid n2
      refine ⟨_, rfl, S2, ?_⟩
      simp only [Act.put, List.setIfInBounds_toArray, List.set_cons_zero, List.set_cons_succ]
      have hrow : V2.heap[L]? = some (.cells (rowOf false zeros) 25 (0, 0)) := (b2.block _ hlt).trans hA
      have S4 := (S2).putRow hrow hL.2 hL.1 r2
      refine wpAnyH_all (rs := [6]) (by kernel_rfl) (by simp) ?_
      intro i hi
      obtain rfl : i = 6 := by simpa using hi
      refine t_store (g := L) (old := rowOf false zeros) (cells := rowOf false r2) rfl rfl rfl rfl rfl rfl (by exact hrow) (by rw [infoR, size_row, n2.out]) (by rw [size_row, size_row, n2.out]; rfl) (one_row _) ⟨S4.sub (by simp), ?_⟩
      refine wpAnyH_done (by kernel_rfl) ?_ 0
      generalize (V2).setRow L (rowOf false r2) = V9 at S4 ⊢
      clear hrow
      try clear S1
      try clear S2
      try clear S3
      try clear b1
      try clear b2
      try clear hS
      have hL := Lib.hid hL
      go_wp2_with fail
      refine wp_region_held (S := Hold w [(L, r2), (w.heap.size + 1 + 1, zs), (w.heap.size + 1, ys), (w.heap.size, xs)]) mixed ?_
      have S5 := S4.drew
      change wpAnyH _ _ _ _ _ _ _ _ V9.drew
      generalize V9.drew = V10 at S5 ⊢
      refine t_load (b := L) (xs := r2) 0 (some 29) rfl rfl (by kernel_rfl) (by kernel_rfl) (by kernel_rfl) (fun _ _ _ h => h) rfl rfl rfl Try.underlying25 hiR hsR (by simp) n2.out S5 ?_
      simp only [Act.put, List.setIfInBounds_toArray, List.set_cons_zero, List.set_cons_succ]
      refine t_load (b := w.heap.size) (xs := xs) 1 (some 30) rfl rfl (by kernel_rfl) (by kernel_rfl) (by kernel_rfl) (fun _ _ _ h => h) rfl rfl rfl Try.underlying25 hiR hsR (by simp) hlx.out S5 ?_
      simp only [Act.put, List.setIfInBounds_toArray, List.set_cons_zero, List.set_cons_succ]
      refine t_load (b := w.heap.size + 1) (xs := ys) 2 (some 31) rfl rfl (by kernel_rfl) (by kernel_rfl) (by kernel_rfl) (fun _ _ _ h => h) rfl rfl rfl Try.underlying25 hiR hsR (by simp) hly.out S5 ?_
      simp only [Act.put, List.setIfInBounds_toArray, List.set_cons_zero, List.set_cons_succ]
      refine t_load (b := w.heap.size + 1 + 1) (xs := zs) 3 (some 32) rfl rfl (by kernel_rfl) (by kernel_rfl) (by kernel_rfl) (fun _ _ _ h => h) rfl rfl rfl Try.underlying25 hiR hsR (by simp) hlz.out S5 ?_
      simp only [Act.put, List.setIfInBounds_toArray, List.set_cons_zero, List.set_cons_succ]
      refine wpAnyH_all (rs := [4]) (by kernel_rfl) (by simp) ?_
      intro i hi
      obtain rfl : i = 4 := by simpa using hi
      refine t_call (u := .agg (rowOf false ys)) (v := .agg (rowOf false zs)) (some 33) rfl rfl rfl rfl Try.call12 rfl rfl (im_add _ ys zs hly.out hlz.out ly.out lz.out wy wz) ?_
      rintro e V3 ⟨r3, rfl, ⟨q3, n3⟩, d3, b3⟩
      have S3 := (S5).later b3
      have q3 := Lib.hid q3
      have n3 := Lib.hid n3
      refine ⟨_, rfl, S3, ?_⟩
      simp only [Act.put, List.setIfInBounds_toArray, List.set_cons_zero, List.set_cons_succ]
      refine wpAnyH_all (rs := [5]) (by kernel_rfl) (by simp) ?_
      intro i hi
      obtain rfl : i = 5 := by simpa using hi
      refine t_call (u := .agg (rowOf false xs)) (v := .agg (rowOf false r3)) (some 34) rfl rfl rfl rfl Try.call12 rfl rfl (im_add _ xs r3 hlx.out n3.out lx.out (by rw [q3.out]; exact mod_lt_p _) wx d3) ?_
      rintro e V4 ⟨r4, rfl, ⟨q4, n4⟩, d4, b4⟩
      have S4 := (S3).later b4
      have q4 := Lib.hid q4
      have n4 := Lib.hid n4
      refine ⟨_, rfl, S4, ?_⟩
      simp only [Act.put, List.setIfInBounds_toArray, List.set_cons_zero, List.set_cons_succ]
      have e24 : r2 = r4 := num_inj d2 d4 (by rw [n4.out, n2.out]) (by rw [q4.out, q3.out, q2.out, q1.out]; exact grp1 _ _ _ _)
      subst e24
      refine wpAnyH_all (rs := [6]) (by kernel_rfl) (by simp) ?_
      intro i hi
      obtain rfl : i = 6 := by simpa using hi
      refine t_value (some 35) rfl rfl rfl (run_eql_row false r2 rfl eqg Try.underlying25 Try.underlying22 hiE hsE n2.out rfl rfl) ⟨S4, ?_⟩
      simp only [Act.put, List.setIfInBounds_toArray, List.set_cons_zero, List.set_cons_succ]
      refine wpAnyH_all (rs := [7]) (by kernel_rfl) (by simp) ?_
      intro i hi
      obtain rfl : i = 7 := by simpa using hi
      refine t_value (v := .bool true) (some 36) rfl rfl rfl rfl ⟨S4, ?_⟩
      simp only [Act.put, List.setIfInBounds_toArray, List.set_cons_zero, List.set_cons_succ]
      refine t_load (b := L) (xs := r2) 8 (some 37) rfl rfl (by kernel_rfl) (by kernel_rfl) (by kernel_rfl) (fun _ _ _ h => h) rfl rfl rfl Try.underlying25 hiR hsR (by simp) n2.out S4 ?_
      simp only [Act.put, List.setIfInBounds_toArray, List.set_cons_zero, List.set_cons_succ]
      refine t_load (b := w.heap.size + 1) (xs := ys) 9 (some 38) rfl rfl (by kernel_rfl) (by kernel_rfl) (by kernel_rfl) (fun _ _ _ h => h) rfl rfl rfl Try.underlying25 hiR hsR (by simp) hly.out S4 ?_
      simp only [Act.put, List.setIfInBounds_toArray, List.set_cons_zero, List.set_cons_succ]
      refine t_load (b := w.heap.size + 1 + 1) (xs := zs) 10 (some 39) rfl rfl (by kernel_rfl) (by kernel_rfl) (by kernel_rfl) (fun _ _ _ h => h) rfl rfl rfl Try.underlying25 hiR hsR (by simp) hlz.out S4 ?_
      simp only [Act.put, List.setIfInBounds_toArray, List.set_cons_zero, List.set_cons_succ]
      refine t_load (b := w.heap.size) (xs := xs) 13 (some 42) rfl rfl (by kernel_rfl) (by kernel_rfl) (by kernel_rfl) (fun _ _ _ h => h) rfl rfl rfl Try.underlying25 hiR hsR (by simp) hlx.out S4 ?_
      simp only [Act.put, List.setIfInBounds_toArray, List.set_cons_zero, List.set_cons_succ]
      refine wpAnyH_all (rs := [11]) (by kernel_rfl) (by simp) ?_
      intro i hi
      obtain rfl : i = 11 := by simpa using hi
      refine t_call (u := .agg (rowOf false ys)) (v := .agg (rowOf false zs)) (some 40) rfl rfl rfl rfl Try.call12 rfl rfl (im_add _ ys zs hly.out hlz.out ly.out lz.out wy wz) ?_
      rintro e V5 ⟨r5, rfl, ⟨q5, n5⟩, d5, b5⟩
      have S5 := (S4).later b5
      have q5 := Lib.hid q5
      have n5 := Lib.hid n5
      refine ⟨_, rfl, S5, ?_⟩
      simp only [Act.put, List.setIfInBounds_toArray, List.set_cons_zero, List.set_cons_succ]
      refine wpAnyH_all (rs := [12]) (by kernel_rfl) (by simp) ?_
      intro i hi
      obtain rfl : i = 12 := by simpa using hi
      refine t_call (u := .agg (rowOf false r2)) (v := .agg (rowOf false r5)) (some 41) rfl rfl rfl rfl Try.call9 rfl rfl (im_sub _ r2 r5 n2.out n5.out (by rw [q2.out]; exact mod_lt_p _) (by rw [q5.out]; exact mod_lt_p _) d2 d5) ?_
      rintro e V6 ⟨r6, rfl, ⟨q6, n6⟩, d6, b6⟩
      have S6 := (S5).later b6
      have q6 := Lib.hid q6
      have n6 := Lib.hid n6
      refine ⟨_, rfl, S6, ?_⟩
      simp only [Act.put, List.setIfInBounds_toArray, List.set_cons_zero, List.set_cons_succ]
      have e6 : xs = r6 := num_inj wx d6 (by rw [n6.out, hlx.out]) (by rw [q6.out, q5.out, q2.out, q1.out]; exact (grp2 _ _ _ _ lx.out).symm)
      subst e6
      refine wpAnyH_all (rs := [14]) (by kernel_rfl) (by simp) ?_
      intro i hi
      obtain rfl : i = 14 := by simpa using hi
      refine t_value (some 43) rfl rfl rfl (run_eql_row false xs rfl eqg Try.underlying25 Try.underlying22 hiE hsE hlx.out rfl rfl) ⟨S6, ?_⟩
      simp only [Act.put, List.setIfInBounds_toArray, List.set_cons_zero, List.set_cons_succ]
      refine wpAnyH_all (rs := [15]) (by kernel_rfl) (by simp) ?_
      intro i hi
      obtain rfl : i = 15 := by simpa using hi
      refine t_value (v := .bool true) (some 44) rfl rfl rfl rfl ⟨S6, ?_⟩
      simp only [Act.put, List.setIfInBounds_toArray, List.set_cons_zero, List.set_cons_succ]
      refine wpAnyH_all (rs := [16]) (by kernel_rfl) (by simp) ?_
      intro i hi
      obtain rfl : i = 16 := by simpa using hi
      refine t_value (v := .bool true) (some 6) rfl rfl rfl rfl ⟨S6, ?_⟩
      simp only [Act.put, List.setIfInBounds_toArray, List.set_cons_zero, List.set_cons_succ]
      refine wpAnyH_done (by kernel_rfl) ?_ 0
      have hfin := S6.below
      clear S3 S4 S5 S6
      go_wp2_with fail
      go_ret
      exact ⟨rfl, hfin⟩
  · skip
    have hL := Lib.hid (show (∀ b l, (b, l) ∈ [(w.heap.size + 1 + 1, zs), (w.heap.size + 1, ys), (w.heap.size, xs)] → b < V0.heap.size) ∧ w.heap.size ≤ V0.heap.size from ⟨fun b l hm => (hS.rows b l hm).2, hS.below.size⟩)
    have A3 := (hS).later ((Below.refl _ _).alloc (Nat.le_refl _) (.cells (rowOf false zeros) 25))
    refine t_value (some 7) rfl rfl rfl (run_alloc rfl hiR hzR) ⟨A3, ?_⟩
    simp only [Act.put, List.setIfInBounds_toArray, List.set_cons_zero, List.set_cons_succ]
    have hA : (V0.alloc (.cells (rowOf false zeros) 25)).heap[V0.heap.size]? = some (.cells (rowOf false zeros) 25 (0, 0)) := ha_same _ _ rfl
    have hlt : V0.heap.size < (V0.alloc (.cells (rowOf false zeros) 25)).heap.size := by simp
    generalize V0.alloc (.cells (rowOf false zeros) 25) = VA at A3 hA hlt ⊢
    generalize V0.heap.size = L at hL hA hlt ⊢
    have hL := hL.out
    refine wpAnyH_all (rs := [2]) (by kernel_rfl) (by simp) ?_
    intro i hi
    obtain rfl : i = 2 := by simpa using hi
    refine t_call (u := .agg (rowOf false xs)) (v := .agg (rowOf false ys)) (some 26) rfl rfl rfl rfl Try.call12 rfl rfl (im_add _ xs ys hlx.out hly.out lx.out ly.out wx wy) ?_
    rintro e V1 ⟨r1, rfl, ⟨q1, n1⟩, d1, b1⟩
    have S1 := (A3).later b1
    have q1 := Lib.hid q1
    have n1 := Lib.hid n1
    refine ⟨_, rfl, S1, ?_⟩
    simp only [Act.put, List.setIfInBounds_toArray, List.set_cons_zero, List.set_cons_succ]
    refine wpAnyH_all (rs := [4]) (by kernel_rfl) (by simp) ?_
    intro i hi
    obtain rfl : i = 4 := by simpa using hi
    refine t_call (u := .agg (rowOf false r1)) (v := .agg (rowOf false zs)) (some 28) rfl rfl rfl rfl Try.call12 rfl rfl (im_add _ r1 zs n1.out hlz.out (by rw [q1.out]; exact mod_lt_p _) lz.out d1 wz) ?_
    rintro e V2 ⟨r2, rfl, ⟨q2, n2⟩, d2, b2⟩
    have S2 := (S1).later b2
    have q2 := Lib.hid q2
    have n2 := Lib.hid n2
    refine ⟨_, rfl, S2, ?_⟩
    simp only [Act.put, List.setIfInBounds_toArray, List.set_cons_zero, List.set_cons_succ]
    have hrow : V2.heap[L]? = some (.cells (rowOf false zeros) 25 (0, 0)) := (b2.block _ (Nat.lt_of_lt_of_le hlt b1.size)).trans ((b1.block _ hlt).trans hA)
    have S4 := (S2).putRow hrow hL.2 hL.1 r2
    refine wpAnyH_all (rs := [6]) (by kernel_rfl) (by simp) ?_
    intro i hi
    obtain rfl : i = 6 := by simpa using hi
    refine t_store (g := L) (old := rowOf false zeros) (cells := rowOf false r2) rfl rfl rfl rfl rfl rfl (by exact hrow) (by rw [infoR, size_row, n2.out]) (by rw [size_row, size_row, n2.out]; rfl) (one_row _) ⟨S4.sub (by simp), ?_⟩
    refine wpAnyH_done (by kernel_rfl) ?_ 0
    generalize (V2).setRow L (rowOf false r2) = V9 at S4 ⊢
    clear hrow
    try clear S1
    try clear S2
    try clear S3
    try clear b1
    try clear b2
    try clear hS
    have hL := Lib.hid hL
    go_wp2_with fail
    refine wp_region_held (S := Hold w [(L, r2), (w.heap.size + 1 + 1, zs), (w.heap.size + 1, ys), (w.heap.size, xs)]) mixed ?_
    have S5 := S4.drew
    change wpAnyH _ _ _ _ _ _ _ _ V9.drew
    generalize V9.drew = V10 at S5 ⊢
    refine t_load (b := L) (xs := r2) 0 (some 29) rfl rfl (by kernel_rfl) (by kernel_rfl) (by kernel_rfl) (fun _ _ _ h => h) rfl rfl rfl Try.underlying25 hiR hsR (by simp) n2.out S5 ?_
    simp only [Act.put, List.setIfInBounds_toArray, List.set_cons_zero, List.set_cons_succ]
    refine t_load (b := w.heap.size) (xs := xs) 1 (some 30) rfl rfl (by kernel_rfl) (by kernel_rfl) (by kernel_rfl) (fun _ _ _ h => h) rfl rfl rfl Try.underlying25 hiR hsR (by simp) hlx.out S5 ?_
    simp only [Act.put, List.setIfInBounds_toArray, List.set_cons_zero, List.set_cons_succ]
    refine t_load (b := w.heap.size + 1) (xs := ys) 2 (some 31) rfl rfl (by kernel_rfl) (by kernel_rfl) (by kernel_rfl) (fun _ _ _ h => h) rfl rfl rfl Try.underlying25 hiR hsR (by simp) hly.out S5 ?_
    simp only [Act.put, List.setIfInBounds_toArray, List.set_cons_zero, List.set_cons_succ]
    refine t_load (b := w.heap.size + 1 + 1) (xs := zs) 3 (some 32) rfl rfl (by kernel_rfl) (by kernel_rfl) (by kernel_rfl) (fun _ _ _ h => h) rfl rfl rfl Try.underlying25 hiR hsR (by simp) hlz.out S5 ?_
    simp only [Act.put, List.setIfInBounds_toArray, List.set_cons_zero, List.set_cons_succ]
    refine wpAnyH_all (rs := [4]) (by kernel_rfl) (by simp) ?_
    intro i hi
    obtain rfl : i = 4 := by simpa using hi
    refine t_call (u := .agg (rowOf false ys)) (v := .agg (rowOf false zs)) (some 33) rfl rfl rfl rfl Try.call12 rfl rfl (im_add _ ys zs hly.out hlz.out ly.out lz.out wy wz) ?_
    rintro e V3 ⟨r3, rfl, ⟨q3, n3⟩, d3, b3⟩
    have S3 := (S5).later b3
    have q3 := Lib.hid q3
    have n3 := Lib.hid n3
    refine ⟨_, rfl, S3, ?_⟩
    simp only [Act.put, List.setIfInBounds_toArray, List.set_cons_zero, List.set_cons_succ]
    refine wpAnyH_all (rs := [5]) (by kernel_rfl) (by simp) ?_
    intro i hi
    obtain rfl : i = 5 := by simpa using hi
    refine t_call (u := .agg (rowOf false xs)) (v := .agg (rowOf false r3)) (some 34) rfl rfl rfl rfl Try.call12 rfl rfl (im_add _ xs r3 hlx.out n3.out lx.out (by rw [q3.out]; exact mod_lt_p _) wx d3) ?_
    rintro e V4 ⟨r4, rfl, ⟨q4, n4⟩, d4, b4⟩
    have S4 := (S3).later b4
    have q4 := Lib.hid q4
    have n4 := Lib.hid n4
    refine ⟨_, rfl, S4, ?_⟩
    simp only [Act.put, List.setIfInBounds_toArray, List.set_cons_zero, List.set_cons_succ]
    have e24 : r2 = r4 := num_inj d2 d4 (by rw [n4.out, n2.out]) (by rw [q4.out, q3.out, q2.out, q1.out]; exact grp1 _ _ _ _)
    subst e24
    refine wpAnyH_all (rs := [6]) (by kernel_rfl) (by simp) ?_
    intro i hi
    obtain rfl : i = 6 := by simpa using hi
    refine t_value (some 35) rfl rfl rfl (run_eql_row false r2 rfl eqg Try.underlying25 Try.underlying22 hiE hsE n2.out rfl rfl) ⟨S4, ?_⟩
    simp only [Act.put, List.setIfInBounds_toArray, List.set_cons_zero, List.set_cons_succ]
    refine wpAnyH_all (rs := [7]) (by kernel_rfl) (by simp) ?_
    intro i hi
    obtain rfl : i = 7 := by simpa using hi
    refine t_value (v := .bool true) (some 36) rfl rfl rfl rfl ⟨S4, ?_⟩
    simp only [Act.put, List.setIfInBounds_toArray, List.set_cons_zero, List.set_cons_succ]
    refine t_load (b := L) (xs := r2) 8 (some 37) rfl rfl (by kernel_rfl) (by kernel_rfl) (by kernel_rfl) (fun _ _ _ h => h) rfl rfl rfl Try.underlying25 hiR hsR (by simp) n2.out S4 ?_
    simp only [Act.put, List.setIfInBounds_toArray, List.set_cons_zero, List.set_cons_succ]
    refine t_load (b := w.heap.size + 1) (xs := ys) 9 (some 38) rfl rfl (by kernel_rfl) (by kernel_rfl) (by kernel_rfl) (fun _ _ _ h => h) rfl rfl rfl Try.underlying25 hiR hsR (by simp) hly.out S4 ?_
    simp only [Act.put, List.setIfInBounds_toArray, List.set_cons_zero, List.set_cons_succ]
    refine t_load (b := w.heap.size + 1 + 1) (xs := zs) 10 (some 39) rfl rfl (by kernel_rfl) (by kernel_rfl) (by kernel_rfl) (fun _ _ _ h => h) rfl rfl rfl Try.underlying25 hiR hsR (by simp) hlz.out S4 ?_
    simp only [Act.put, List.setIfInBounds_toArray, List.set_cons_zero, List.set_cons_succ]
    refine t_load (b := w.heap.size) (xs := xs) 13 (some 42) rfl rfl (by kernel_rfl) (by kernel_rfl) (by kernel_rfl) (fun _ _ _ h => h) rfl rfl rfl Try.underlying25 hiR hsR (by simp) hlx.out S4 ?_
    simp only [Act.put, List.setIfInBounds_toArray, List.set_cons_zero, List.set_cons_succ]
    refine wpAnyH_all (rs := [11]) (by kernel_rfl) (by simp) ?_
    intro i hi
    obtain rfl : i = 11 := by simpa using hi
    refine t_call (u := .agg (rowOf false ys)) (v := .agg (rowOf false zs)) (some 40) rfl rfl rfl rfl Try.call12 rfl rfl (im_add _ ys zs hly.out hlz.out ly.out lz.out wy wz) ?_
    rintro e V5 ⟨r5, rfl, ⟨q5, n5⟩, d5, b5⟩
    have S5 := (S4).later b5
    have q5 := Lib.hid q5
    have n5 := Lib.hid n5
    refine ⟨_, rfl, S5, ?_⟩
    simp only [Act.put, List.setIfInBounds_toArray, List.set_cons_zero, List.set_cons_succ]
    refine wpAnyH_all (rs := [12]) (by kernel_rfl) (by simp) ?_
    intro i hi
    obtain rfl : i = 12 := by simpa using hi
    refine t_call (u := .agg (rowOf false r2)) (v := .agg (rowOf false r5)) (some 41) rfl rfl rfl rfl Try.call9 rfl rfl (im_sub _ r2 r5 n2.out n5.out (by rw [q2.out]; exact mod_lt_p _) (by rw [q5.out]; exact mod_lt_p _) d2 d5) ?_
    rintro e V6 ⟨r6, rfl, ⟨q6, n6⟩, d6, b6⟩
    have S6 := (S5).later b6
    have q6 := Lib.hid q6
    have n6 := Lib.hid n6
    refine ⟨_, rfl, S6, ?_⟩
    simp only [Act.put, List.setIfInBounds_toArray, List.set_cons_zero, List.set_cons_succ]
    have e6 : xs = r6 := num_inj wx d6 (by rw [n6.out, hlx.out]) (by rw [q6.out, q5.out, q2.out, q1.out]; exact (grp2 _ _ _ _ lx.out).symm)
    subst e6
    refine wpAnyH_all (rs := [14]) (by kernel_rfl) (by simp) ?_
    intro i hi
    obtain rfl : i = 14 := by simpa using hi
    refine t_value (some 43) rfl rfl rfl (run_eql_row false xs rfl eqg Try.underlying25 Try.underlying22 hiE hsE hlx.out rfl rfl) ⟨S6, ?_⟩
    simp only [Act.put, List.setIfInBounds_toArray, List.set_cons_zero, List.set_cons_succ]
    refine wpAnyH_all (rs := [15]) (by kernel_rfl) (by simp) ?_
    intro i hi
    obtain rfl : i = 15 := by simpa using hi
    refine t_value (v := .bool true) (some 44) rfl rfl rfl rfl ⟨S6, ?_⟩
    simp only [Act.put, List.setIfInBounds_toArray, List.set_cons_zero, List.set_cons_succ]
    refine wpAnyH_all (rs := [16]) (by kernel_rfl) (by simp) ?_
    intro i hi
    obtain rfl : i = 16 := by simpa using hi
    refine t_value (v := .bool true) (some 6) rfl rfl rfl rfl ⟨S6, ?_⟩
    simp only [Act.put, List.setIfInBounds_toArray, List.set_cons_zero, List.set_cons_succ]
    refine wpAnyH_done (by kernel_rfl) ?_ 0
    have hfin := S6.below
    clear S3 S4 S5 S6
    go_wp2_with fail
    go_ret
    exact ⟨rfl, hfin⟩

theorem w_group_row (w : World) (xs : List Nat) (lx : xs.length = 9) (fx : ∀ x ∈ xs, x < lim false) (ys : List Nat) (ly : ys.length = 9) (fy : ∀ x ∈ ys, x < lim false) (zs : List Nat) (lz : zs.length = 9) (fz : ∀ x ∈ zs, x < lim false) :
    Calls Try.prog 5 #[.agg (rowOf false xs), .agg (rowOf false ys), .agg (rowOf false zs)] w fun e w' => e = .returned (.bool true) ∧ Below w.heap.size w w' := by
  by_cases h1 : num xs < num pws
  · by_cases h2 : num ys < num pws
    · by_cases h3 : num zs < num pws
      · exact w_group_4 w xs ys zs lx ly lz (Wd.of_mem fx) (Wd.of_mem fy) (Wd.of_mem fz) (decide_eq_true h1) (decide_eq_true h2) (decide_eq_true h3)
      · exact w_group_3 w xs ys zs lx ly lz (Wd.of_mem fx) (Wd.of_mem fy) (Wd.of_mem fz) (decide_eq_true h1) (decide_eq_true h2) (decide_eq_false h3)
    · exact w_group_2 w xs ys zs lx ly lz (Wd.of_mem fx) (Wd.of_mem fy) (decide_eq_true h1) (decide_eq_false h2)
  · exact w_group_1 w xs ys zs lx ly lz (Wd.of_mem fx) (decide_eq_false h1)

end Go.Proofs.Ytdbaaiplkngjkaa
