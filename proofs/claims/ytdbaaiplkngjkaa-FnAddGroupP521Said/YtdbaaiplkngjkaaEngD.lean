/-
  A small engine for straight code over 64-bit words: the operations that write, lists of operations, code, a call.
-/
import Derived.Test.YtdbaaiplkngjkaaEngC
import Derived.Below
namespace Go.Proofs.Ytdbaaiplkngjkaa
open Go Go.RowKit

variable {P : Program} {C : Cfg} {w0 : World} {N : Nat} {env0 β0 : List Nat} {S S' : St} {env β : List Nat} {a : Act} {w : World}

theorem Rel.alloc (R : Rel w0 N env0 β0 S env β a w) (t : TypeId) {S1 : St} (hS : S1 = { S with blks := S.blks ++ [⟨t, [.w (.c 0) true]⟩] }) :
    Rel w0 N env0 β0 S1 env (β ++ [w.heap.size]) a (w.alloc (.cells #[.int .u64 0] t)) := by
  subst hS
  have hold : ∀ b, b < w.heap.size → (w.alloc (.cells #[.int .u64 0] t)).heap[b]? = w.heap[b]? := fun b hb => Below.heap_alloc w _ b hb
  have hmem : ∀ (i : Nat) B, β[i]? = some B → B < w.heap.size := fun i B h => R.inb B (List.mem_of_getElem? h)
  refine { R with slots := ?_, nb := by simp [R.nb], nodup := ?_, inb := ?_, blks := ?_, hsize := by simp; exact Nat.le_succ_of_le R.hsize, frame := ?_, newer := ?_, preβ := ?_ }
  · intro s sv h; obtain ⟨v, h1, h2⟩ := R.slots s sv h
    have := h2.mono [] [w.heap.size]; rw [List.append_nil] at this; exact ⟨v, h1, this⟩
  · rw [List.nodup_append]
    refine ⟨R.nodup, by simp, fun x hx y hy => ?_⟩
    have := R.inb x hx
    simp at hy; omega
  · intro b hb
    rcases List.mem_append.1 hb with hb | hb
    · have := R.inb b hb; simp; omega
    · simp at hb; simp; omega
  · intro i blk h
    rcases Nat.lt_or_ge i S.blks.length with hi | hi
    · rw [List.getElem?_append_left hi] at h
      obtain ⟨B, c, h1, h2, h3, h4⟩ := R.blks i blk h
      refine ⟨B, c, by rw [List.getElem?_append_left (by rw [R.nb]; exact hi)]; exact h1, by rw [hold B (hmem i B h1)]; exact h2, h3, fun j sv hj => ?_⟩
      obtain ⟨v, h5, h6⟩ := h4 j sv hj
      have := h6.mono [] [w.heap.size]; rw [List.append_nil] at this
      exact ⟨v, h5, this⟩
    · rw [List.getElem?_append_right hi] at h
      have hi0 : i - S.blks.length = 0 := by
        rcases Nat.eq_zero_or_pos (i - S.blks.length) with h0 | h0
        · exact h0
        · rw [List.getElem?_eq_none (by simp; omega)] at h; cases h
      rw [hi0] at h
      simp at h
      subst h
      refine ⟨w.heap.size, #[.int .u64 0], ?_, ?_, rfl, ?_⟩
      · rw [List.getElem?_append_right (by rw [R.nb]; exact hi), R.nb, hi0]; rfl
      · show (w.heap.push _)[w.heap.size]? = _; simp
      · intro j sv hj
        cases j with
        | zero => simp at hj; subst hj; exact ⟨.int .u64 0, rfl, 0, rfl, by decide, fun _ => by decide, rfl⟩
        | succ j => simp at hj
  · intro b hb hn
    rw [hold b (Nat.lt_of_lt_of_le hb R.hsize)]; exact R.frame b hb hn
  · intro b hb
    rcases List.mem_append.1 hb with hb | hb
    · exact R.newer b hb
    · simp at hb; subst hb; exact .inr R.hsize
  · obtain ⟨e, he⟩ := R.preβ; exact ⟨e ++ [w.heap.size], by rw [he, List.append_assoc]⟩

theorem heap_setCell_same (w : World) (B off : Nat) (v : Value) (c : Array Value) (t : TypeId) (f : Nat × Nat) (h : w.heap[B]? = some (.cells c t f)) :
    (w.setCell ⟨B, off, none⟩ v).heap[B]? = some (.cells (c.setIfInBounds off v) t f) := by
  simp [World.setCell, Array.getElem?_modify, h]

theorem Rel.store (R : Rel w0 N env0 β0 S env β a w) {b off B : Nat} {sv old : Sv} {v : Value} (hB : β[b]? = some B) (hc : cellS S b off = some old) (hd : Den env β sv v)
    {S1 : St} (hS : S1 = { S with blks := setCellL S.blks b off sv }) : Rel w0 N env0 β0 S1 env β a (w.setCell ⟨B, off, none⟩ v) := by
  subst hS
  have hBm : B ∈ β := List.mem_of_getElem? hB
  have hother : ∀ k, k ≠ B → (w.setCell ⟨B, off, none⟩ v).heap[k]? = w.heap[k]? := fun k hk => Below.heap_setCell w ⟨B, off, none⟩ v k hk
  refine { R with nb := by simp [R.nb, setCellL_length], inb := by simpa using R.inb, blks := ?_, hsize := by simpa using R.hsize, frame := ?_ }
  · intro i blk h
    by_cases hib : i = b
    · subst hib
      rw [setCellL_same] at h
      cases hk : S.blks[i]? with
      | none => rw [hk] at h; cases h
      | some k =>
        rw [hk] at h
        simp at h
        subst h
        obtain ⟨B', c, h1, h2, h3, h4⟩ := R.blks i k hk
        rw [hB] at h1; cases h1
        refine ⟨B, c.setIfInBounds off v, hB, heap_setCell_same w B off v c _ _ h2, by simp [h3], fun j s hj => ?_⟩
        have hoff : off < k.cells.length := by
          unfold cellS at hc; rw [hk] at hc
          rcases Nat.lt_or_ge off k.cells.length with hh | hh
          · exact hh
          · simp [List.getElem?_eq_none hh] at hc
        by_cases hjo : off = j
        · subst hjo
          simp [hoff] at hj
          subst hj
          exact ⟨v, by simp [h3, hoff], hd⟩
        · simp only [List.getElem?_set_ne hjo] at hj
          obtain ⟨u, h5, h6⟩ := h4 j s hj
          exact ⟨u, by rw [Array.getElem?_setIfInBounds_ne hjo]; exact h5, h6⟩
    · rw [setCellL_other _ _ _ _ _ hib] at h
      obtain ⟨B', c, h1, h2, h3, h4⟩ := R.blks i blk h
      refine ⟨B', c, h1, ?_, h3, h4⟩
      rw [hother B' ?_]
      · exact h2
      · intro e
        subst e
        apply hib
        have hil : i < β.length := by
          rcases Nat.lt_or_ge i β.length with hh | hh
          · exact hh
          · rw [List.getElem?_eq_none hh] at h1; cases h1
        exact (List.getElem?_inj hil R.nodup).1 (h1.trans hB.symm)
  · intro k hk hn
    rw [hother k ?_]
    · exact R.frame k hk hn
    · intro e
      subst e
      rcases R.newer k hBm with h | h
      · exact hn h
      · omega

theorem s_cmov (hC : C.Ok P) {g : FuncId} (hg : C.cmov = some g) {dst : Option Tmp} {ty : TypeId} {pos : String} {after : Array Edge} {args : Array Operand} {argTypes : Array TypeId} (h : stepCmov N S dst args.toList = some S')
    (R : Rel w0 N env0 β0 S env β a w) {K : Act → World → Prop} {Q : Exit → Act → World → Prop} (hK : ∀ env' β' a' w', Rel w0 N env0 β0 S' env' β' a' w' → K a' w') :
    (⟨dst, .call ⟨.value (.func g), args, argTypes⟩, ty, pos, after, none⟩ : Oper).wp P a w K Q := by
  generalize hargs : args.toList = l at h
  unfold stepCmov at h
  split at h
  · rename_i p c x y
    split at h
    · rename_i b off c' x' bx y' bY hp hc hx hy
      split at h
      · rename_i old hcell
        obtain ⟨n, h1, h2, h3, he⟩ := R.opnd hx
        obtain ⟨m, k1, k2, k3, ke⟩ := R.opnd hy
        obtain ⟨l, l1, l2, l3, le⟩ := R.opnd hc
        have l4 := l3 rfl
        obtain ⟨B, u, hpv, hB, hcl, _, hfz⟩ := R.cell (R.opnd hp) hcell
        have hm := map_args (a := a) (vs := [.pointer (some ⟨B, off, none⟩), .int .u64 (l : Int), .int .u64 (n : Int), .int .u64 (m : Int)]) hargs (by simp [he, ke, le, hpv])
        unfold Oper.wp
        rw [run_call hm, hC.cmovRun g hg]
        refine (hC.cmov g hg ⟨B, off, none⟩ l n m w u l4 h2 k2 hcl hfz).mono ?_
        rintro e w' ⟨rfl, rfl⟩
        have R1 := R.more [if l = 0 then n else m] (.sel S.nv c' x' y') (S1 := S.fresh1 (.sel S.nv c' x' y')) (by
          intro e
          show val _ _ = (if _ = 0 then _ else _) ∧ _
          rw [val_new env _ e R.nv, List.append_assoc, At.ev_ext h1, At.ev_ext k1, At.ev_ext l1]
          exact ⟨rfl, l4⟩) rfl
        have hden : Den (env ++ [if l = 0 then n else m]) β (.w (.v S.nv) false) (.int .u64 ((if l = 0 then n else m : Nat) : Int)) :=
          den_new R.nv (by split <;> assumption)
        have R2 := R1.store (S1 := { (S.fresh1 (.sel S.nv c' x' y')) with blks := setCellL S.blks b off (.w (.v S.nv) false) }) hB (show cellS (S.fresh1 (.sel S.nv c' x' y')) b off = some old from hcell) hden rfl
        exact hK _ _ _ _ (R2.put (fun s hs => by cases hs) h)
      · cases h
    · cases h
  · cases h

theorem stepWrite_sound (hC : C.Ok P) {o : Oper} (h : stepWrite C N S o = some S') (R : Rel w0 N env0 β0 S env β a w) {K : Act → World → Prop} {Q : Exit → Act → World → Prop}
    (hK : ∀ env' β' a' w', Rel w0 N env0 β0 S' env' β' a' w' → K a' w') : o.guard = none ∧ o.wp P a w K Q := by
  obtain ⟨dst, op, ty, pos, after, guard⟩ := o
  cases guard with
  | some g => simp [stepWrite] at h
  | none =>
  refine ⟨rfl, ?_⟩
  cases op with
  | alloc t =>
    simp only [stepWrite] at h
    split at h
    · rename_i ht
      obtain ⟨hu, i, hi, hs, hz⟩ := hC.word t (memB_mem _ _ ht)
      have hrun : (execOp a.eval (⟨dst, .alloc t, ty, pos, after, none⟩ : Oper)).run P w = .ok (.value (.pointer (some ⟨w.heap.size, 0, none⟩))) (w.alloc (.cells #[.int .u64 0] t)) := by
        simp [execOp, Instr.alloc, zeroValue, typeInfo, hi, hz, newVar, newRow, Value.cells]
      unfold Oper.wp
      rw [hrun]
      have R1 := R.alloc t rfl
      exact hK _ _ _ _ (R1.put (fun s hs => by cases hs; exact ⟨w.heap.size, by rw [← R.nb]; simp, rfl⟩) h)
    · cases h
  | store t x y =>
    simp only [stepWrite] at h
    split at h
    · rename_i b off z bz hx hy
      split at h
      · rename_i old ht hc
        obtain ⟨hu, i, hi, hs, hz⟩ := hC.word t (memB_mem _ _ ht)
        have hy' := R.opnd hy
        obtain ⟨n, h1, h2, h3, he⟩ := hy'
        obtain ⟨B, u, hp, hB, hcl, _, hfz⟩ := R.cell (R.opnd hx) hc
        have hrun : (execOp a.eval (⟨dst, .store t x y, ty, pos, after, none⟩ : Oper)).run P w = .ok .skip (w.setCell ⟨B, off, none⟩ (.int .u64 n)) := by
          simp [execOp, hp, he, Instr.storeAt, Instr.sureAddr, storeVar, sizeOf, typeInfo, hi, hs, Value.cells, storeCells, Addr.add_zero', run_store _ _ _ _ _ (show (Value.int .u64 (n : Int)).oneCell' = true from rfl), hcl, hfz]
        unfold Oper.wp
        rw [hrun]
        have R1 := R.store (sv := .w z bz) hB hc (⟨n, h1, h2, h3, rfl⟩ : Den env β (.w z bz) (.int .u64 n)) rfl
        exact hK _ _ _ _ (R1.put (fun s hs => by cases hs) h)
      · cases h
    · rename_i b off z hx hy
      split at h
      · rename_i old ht hc
        obtain ⟨hu, i, hi, hs, hz⟩ := hC.byte t (memB_mem _ _ ht)
        have hy' := R.opnd hy
        obtain ⟨n, h1, h2, he⟩ := hy'
        obtain ⟨B, u, hp, hB, hcl, _, hfz⟩ := R.cell (R.opnd hx) hc
        have hrun : (execOp a.eval (⟨dst, .store t x y, ty, pos, after, none⟩ : Oper)).run P w = .ok .skip (w.setCell ⟨B, off, none⟩ (.int .u8 n)) := by
          simp [execOp, hp, he, Instr.storeAt, Instr.sureAddr, storeVar, sizeOf, typeInfo, hi, hs, Value.cells, storeCells, Addr.add_zero', run_store _ _ _ _ _ (show (Value.int .u8 (n : Int)).oneCell' = true from rfl), hcl, hfz]
        unfold Oper.wp
        rw [hrun]
        have R1 := R.store (sv := .y z) hB hc (⟨n, h1, h2, rfl⟩ : Den env β (.y z) (.int .u8 n)) rfl
        exact hK _ _ _ _ (R1.put (fun s hs => by cases hs) h)
      · cases h
    · cases h
  | call c =>
    obtain ⟨callee, args, argTypes⟩ := c
    cases callee with
    | value f =>
      cases f with
      | func f =>
        simp only [stepWrite] at h
        split at h
        · rename_i g hg
          split at h
          · rename_i hf
            rw [Nat.eq_of_beq_eq_true hf]; exact s_cmov hC hg h R hK
          · cases h
        · cases h
      | _ => simp [stepWrite] at h
    | _ => simp [stepWrite] at h
  | _ => simp [stepWrite] at h

theorem stepOne_sound (hC : C.Ok P) {o : Oper} (h : stepOne C N S o = some S') (R : Rel w0 N env0 β0 S env β a w) {K : Act → World → Prop} {Q : Exit → Act → World → Prop}
    (hK : ∀ env' β' a' w', Rel w0 N env0 β0 S' env' β' a' w' → K a' w') : o.guard = none ∧ o.wp P a w K Q := by
  unfold stepOne at h
  split at h
  · rename_i S1 h1
    cases h
    obtain ⟨ext, v, R1, hy, hg⟩ := stepPure_sound hC h1 R
    exact ⟨hg, hy.wp (hK _ _ _ _ R1)⟩
  · exact stepWrite_sound hC h R hK

theorem stepList_sound (hC : C.Ok P) {ops : Array Oper} {Q : Exit → Act → World → Prop} : ∀ (l : List Oper) (S : St) (env β : List Nat) (a : Act) (w : World), stepList C N l S = some S' → Rel w0 N env0 β0 S env β a w →
    (∀ env' β' a' w', Rel w0 N env0 β0 S' env' β' a' w' → Q .normal a' w') → wpList P ops Q l a w
  | [], S, env, β, a, w, h, R, hQ => by cases h; exact hQ _ _ _ _ R
  | o :: l, S, env, β, a, w, h, R, hQ => by
    unfold stepList at h
    split at h
    · rename_i S1 h1
      obtain ⟨hg, hwp⟩ := stepOne_sound (Q := Q) (K := wpList P ops Q l) hC h1 R (fun env' β' a' w' R' => stepList_sound hC l S1 env' β' a' w' h R' hQ)
      unfold wpList
      rw [if_pos (by simp [Region.wanted, hg])]
      exact .inl hwp
    · cases h

theorem stepPures_sound (hC : C.Ok P) {ops : Array Oper} {Q : Act → Prop} : ∀ (l : List Oper) (S : St) (env : List Nat) (a : Act), stepPures C N l S = some S' → Rel w0 N env0 β0 S env β a w →
    (∀ env' a', Rel w0 N env0 β0 S' env' β a' w → Q a') → wpStill P ops w Q l a
  | [], S, env, a, h, R, hQ => by cases h; exact hQ _ _ R
  | o :: l, S, env, a, h, R, hQ => by
    unfold stepPures at h
    split at h
    · rename_i S1 h1
      obtain ⟨ext, v, R1, hy, hg⟩ := stepPure_sound hC h1 R
      unfold wpStill
      rw [if_pos (by simp [Region.wanted, hg])]
      exact hy.still (stepPures_sound hC l S1 _ _ h R1 hQ)
    · cases h

theorem Rel.drew (R : Rel w0 N env0 β0 S env β a w) : Rel w0 N env0 β0 S env β a { w with drawn := w.drawn + 1 } := { R with }

theorem stepCode_sound (hC : C.Ok P) (hm : P.follows .mixedOrders = true) : ∀ (c : Code) (S S' : St) (Q : Exit → Act → World → Prop) (env β : List Nat) (a : Act) (w : World), stepCode C N c S = some S' →
    Rel w0 N env0 β0 S env β a w → (∀ env' β' a' w', Rel w0 N env0 β0 S' env' β' a' w' → Q .normal a' w') → c.wp P Q a w
  | .skip, S, S', Q, env, β, a, w, h, R, hQ => by
    cases h; exact wp_skip (hQ _ _ _ _ R)
  | .seq x y, S, S', Q, env, β, a, w, h, R, hQ => by
    unfold stepCode at h
    split at h
    · rename_i S1 h1
      refine wp_seq ?_
      refine stepCode_sound hC hm x S S1 _ env β a w h1 R (fun env' β' a' w' R' => ?_)
      exact stepCode_sound hC hm y S1 S' Q env' β' a' w' h R' hQ
    · cases h
  | .region id ⟨ops⟩ false, S, S', Q, env, β, a, w, h, R, hQ => wp_region_lit (stepList_sound hC ops S env β a w h R hQ)
  | .region id ⟨ops⟩ true, S, S', Q, env, β, a, w, h, R, hQ => by
    unfold stepCode at h
    split at h
    · rename_i S1 h1
      split at h
      · rename_i hB
        cases h
        refine wp_region_still hm hB ?_
        exact stepPures_sound hC ops S env a h1 R.drew (fun env' a' R' => hQ _ _ _ _ R')
      · cases h
    · split at h
      · rename_i hB
        split at h
        · rename_i S1 h1
          refine wp_region_still_tail (l := ops) (ops.length - 1) hm hB ?_
          refine stepPures_sound hC _ S env a h1 R.drew (fun env' a' R' => ?_)
          exact stepList_sound hC _ S1 env' β a' _ h R' hQ
        · cases h
      · cases h
  | .cond .., _, _, _, _, _, _, _, h, _, _ => by cases h
  | .block .., _, _, _, _, _, _, _, h, _, _ => by cases h
  | .loop .., _, _, _, _, _, _, _, h, _, _ => by cases h
  | .rangeFunc .., _, _, _, _, _, _, _, h, _, _ => by cases h
  | .exit .., _, _, _, _, _, _, _, h, _, _ => by cases h
  | .scope .., _, _, _, _, _, _, _, h, _, _ => by cases h
  | .label .., _, _, _, _, _, _, _, h, _, _ => by cases h
  | .goto .., _, _, _, _, _, _, _, h, _, _ => by cases h
  | .ret, _, _, _, _, _, _, _, h, _, _ => by cases h
  | .refuse .., _, _, _, _, _, _, _, h, _, _ => by cases h

end Go.Proofs.Ytdbaaiplkngjkaa
