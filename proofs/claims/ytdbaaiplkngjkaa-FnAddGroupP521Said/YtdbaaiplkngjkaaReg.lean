/-
  A region that draws its order and holds loads of whole rows beside calls and a new row: its steps, in a world that only grows. Arrays held against each other.
-/
import Derived.Test.YtdbaaiplkngjkaaHold
import Derived.OrdersHeld
import Derived.Laws.Cells
import Derived.Laws.StructEq
namespace Go.Proofs.Ytdbaaiplkngjkaa
open Go Go.RowKit

section
variable {P : Program} {ops : Array Oper} {Q : Exit → Act → World → Prop} {S : World → Prop} {a : Act} {w : World}

theorem rowOf_get {b : Bool} {xs : List Nat} {i : Nat} (hi : i < xs.length) : ∃ k z, (rowOf b xs)[i]? = some (.int k z) := by
  cases b
  · exact ⟨.u64, ((xs[i] : Nat) : Int), by simp [rowOf, hi]⟩
  · exact ⟨.u8, ((xs[i] : Nat) : Int), by simp [rowOf, hi]⟩

/-- A row held against itself. -/
theorem eq_row (d : Nat) {t e n : Nat} {k : IntKind} {i : TypeInfo} (b : Bool) (xs : List Nat) (ht : P.underlying t = some (.array n e)) (he : P.underlying e = some (.int k)) (hi : P.info? e = some i) (hs : i.size = 1) (hl : xs.length = n) :
    (Op.equalIn (d + 2) t (.agg (rowOf b xs)) (.agg (rowOf b xs))).run P w = .ok true w := by
  unfold Op.equalIn
  simp only [Sem.run_bind, underlying, run_program, ht, Sem.run_pure, Result.andThen_ok, sizeOf, typeInfo, hi, hs, Nat.mul_one]
  rw [Std.Legacy.Range.forIn_eq_forIn_range']
  have e1 : List.range' [:n].start [:n].size [:n].step = List.range' 0 n 1 := by simp [Std.Legacy.Range.size]
  rw [e1]
  have hmem : ∀ j ∈ List.range' 0 n 1, j < n := fun j hj => by have := List.mem_range'.1 hj; omega
  have hp : ∀ j, j < n → ∃ k' z, (part e (rowOf b xs) j).run P w = .ok (.int k' z) w := fun j hj => by
    obtain ⟨k', z, hg⟩ := rowOf_get (b := b) (xs := xs) (i := j) (by omega)
    exact ⟨k', z, by simp [part, isAgg, underlying, he, hg]⟩
  generalize List.range' 0 n 1 = l at hmem
  suffices h : (forIn l ((none : Option Bool), ()) fun i (_ : Option Bool × Unit) => (do
      let x ← part e (rowOf b xs) i
      let y ← part e (rowOf b xs) i
      let r ← Op.equalIn (d + 1) e x y
      if (!r) = true then pure (ForInStep.done (some false, ())) else pure (ForInStep.yield (none, ())) : Sem (ForInStep (Option Bool × Unit)))).run P w = .ok (none, ()) w by
    rw [h]; rfl
  clear e1 hl
  induction l with
  | nil => rfl
  | cons j l ih =>
    obtain ⟨k', z, hz⟩ := hp j (hmem j List.mem_cons_self)
    have hq : (Op.equalIn (d + 1) e (.int k' z) (.int k' z)).run P w = .ok true w := by rw [run_equalIn_int w d e k' k z z he]; simp
    simp only [List.forIn_cons, Sem.run_bind, hz, hq, Result.andThen_ok, Bool.not_true, Bool.false_eq_true, if_false, Sem.run_pure]
    exact ih (fun j hj => hmem j (List.mem_cons_of_mem _ hj))

theorem run_eql_row {o : Oper} {t e n : Nat} {k : IntKind} {i : TypeInfo} (b : Bool) (xs : List Nat) {x y : Operand} {t' : TypeId} (ho : o.op = .binOp .eql t x y t') (hg : P.eqGuardType P.depth t = false) (ht : P.underlying t = some (.array n e)) (he : P.underlying e = some (.int k))
    (hi : P.info? e = some i) (hs : i.size = 1) (hl : xs.length = n) (hx : a.eval x = .agg (rowOf b xs)) (hy : a.eval y = .agg (rowOf b xs)) : (execOp a.eval o).run P w = .ok (.value (.bool true)) w := by
  have h1 := run_eqGuard_agg (P := P) w .eql t x y (rowOf b xs) (rowOf b xs) hg
  have h2 := run_eql_struct (P := P) w t (rowOf b xs) (rowOf b xs)
  have h3 := eq_row (P := P) (w := w) 9998 b xs ht he hi hs hl
  simp only [execOp, ho, hx, hy, Sem.run_bind, h1, h2, h3, Result.andThen_ok, Sem.run_pure]

/-- A load of a whole row. -/
theorem y_load {w0 : World} {bs : List (Nat × List Nat)} {o : Oper} {t e n b : Nat} {xs : List Nat} {x : Operand} (ho : o.op = .load t x) (hw : Region.wanted o (yielded ops a.tmps) = true) (hx : a.eval x = .pointer (some ⟨b, 0, none⟩))
    (ht : P.underlying t = some (.array n e)) {i : TypeInfo} (hi : P.info? t = some i) (hs : i.size = n) (hm : (b, xs) ∈ bs) (hl : xs.length = n) : YieldsIf P ops (Hold w0 bs) o (.agg (rowOf false xs)) a := by
  refine .inl ⟨hw, fun w hS => ?_⟩
  have hr := (hS.rows b xs hm).1
  have hc : (loadCells ⟨b, 0, none⟩ n).run P w = .ok (rowOf false xs) w := by
    rw [run_loadCells w ⟨b, 0, none⟩ n (fun j => .int .u64 ((xs.getD j 0 : Nat) : Int)) (fun j hj => by
      have := hr j (by omega)
      rw [Addr.add_lit]; simpa using this)]
    congr 1
    apply Array.ext
    · simp [rowOf, hl]
    · intro j h1 h2
      have : j < xs.length := by simpa [rowOf] using h2
      simp [rowOf, this]
  simp [execOp, ho, hx, Instr.loadAt, Instr.sureAddr, loadVar, isAgg, underlying, ht, sizeOf, typeInfo, hi, hs, hc]

/-- A call. -/
theorem o_call {i : Nat} {o : Oper} {f : FuncId} {args : Array Operand} {ts : Array TypeId} {vs : Array Value} {K : Act → World → Prop} {R : Ending → World → Prop} (hi : ops[i]? = some o) (ho : o.op = .call ⟨.value (.func f), args, ts⟩)
    (hw : Region.wanted o (yielded ops a.tmps) = true) (hrun : ∀ vs w, (callFunc f vs).run P w = .ok (.enter f vs) w) (hargs : args.map a.eval = vs) (hc : Calls P f vs w R) (hR : ∀ e w', R e w' → ∃ v, e = .returned v ∧ K (a.put o.dst v) w') :
    wpOp P ops Q i K a w := by
  unfold wpOp
  simp only [hi, hw, if_true]
  refine .inl ?_
  unfold Oper.wp
  have : (execOp a.eval o).run P w = .ok (.enter f vs) w := by
    rw [← hrun vs w]
    simp [execOp, ho, resolve, Act.eval, Deferred.ofValue, invoke, hargs]
  rw [this]
  refine hc.mono fun e w' h => ?_
  obtain ⟨v, rfl, hk⟩ := hR e w' h
  exact hk

/-- An operation that yields a value here and now. -/
theorem o_value {i : Nat} {o : Oper} {K : Act → World → Prop} {v : Value} {w' : World} (hi : ops[i]? = some o) (hw : Region.wanted o (yielded ops a.tmps) = true) (hrun : (execOp a.eval o).run P w = .ok (.value v) w') (hK : K (a.put o.dst v) w') :
    wpOp P ops Q i K a w := by
  unfold wpOp
  simp only [hi, hw, if_true]
  refine .inl ?_
  unfold Oper.wp
  rw [hrun]
  exact hK

end
end Go.Proofs.Ytdbaaiplkngjkaa
