/-
  Steps over whole rows: a new row, a load, a store, a call, one at a time; the frame is named by its slots.
-/
import Derived.Test.YtdbaaiplkngjkaaReg
import Derived.Laws.Rows
namespace Go.Proofs.Ytdbaaiplkngjkaa
open Go Go.RowKit

section
variable {P : Program} {ops : Array Oper} {Q : Exit → Act → World → Prop} {a : Act} {w : World} {rest : List Oper} {o : Oper}

theorem run_box {t : TypeId} {x : Operand} {c : Array Value} (ho : o.op = .box t x) (hx : a.eval x = .agg c) :
    (execOp a.eval o).run P w = .ok (.value (.pointer (some ⟨w.heap.size, 0, none⟩))) (w.alloc (.cells c t)) := by
  simp [execOp, ho, hx, Instr.box, newVar, newRow, Value.cells]

theorem run_alloc {t : TypeId} {c : Array Value} {i : TypeInfo} (ho : o.op = .alloc t) (hi : P.info? t = some i) (hz : i.zero = some (.agg c)) :
    (execOp a.eval o).run P w = .ok (.value (.pointer (some ⟨w.heap.size, 0, none⟩))) (w.alloc (.cells c t)) := by
  simp [execOp, ho, Instr.alloc, zeroValue, typeInfo, hi, hz, newVar, newRow, Value.cells]

theorem L_value {v : Value} {w' : World} (hg : o.guard = none) (hrun : (execOp a.eval o).run P w = .ok (.value v) w') (h : wpList P ops Q rest (a.put o.dst v) w') : wpList P ops Q (o :: rest) a w :=
  wpList_plain hg fun K hK => by unfold Oper.wp; rw [hrun]; exact hK _ _ h

theorem L_call {f : FuncId} {args : Array Operand} {ts : Array TypeId} {vs : Array Value} {R : Ending → World → Prop} (hg : o.guard = none) (ho : o.op = .call ⟨.value (.func f), args, ts⟩)
    (hrun : ∀ vs w, (callFunc f vs).run P w = .ok (.enter f vs) w) (hargs : args.map a.eval = vs) (hc : Calls P f vs w R) (hR : ∀ e w', R e w' → ∃ v, e = .returned v ∧ wpList P ops Q rest (a.put o.dst v) w') :
    wpList P ops Q (o :: rest) a w :=
  wpList_plain hg fun K hK => by
    unfold Oper.wp
    have : (execOp a.eval o).run P w = .ok (.enter f vs) w := by
      rw [← hrun vs w]
      simp [execOp, ho, resolve, Act.eval, Deferred.ofValue, invoke, hargs]
    rw [this]
    refine hc.mono fun e w' h => ?_
    obtain ⟨v, rfl, hk⟩ := hR e w' h
    exact hK _ _ hk

theorem run_load_of {t e n b : Nat} {xs : List Nat} {x : Operand} (ho : o.op = .load t x) (hx : a.eval x = .pointer (some ⟨b, 0, none⟩)) (ht : P.underlying t = some (.array n e)) (hi : (P.info? t).map (fun i => i.size) = some n)
    (hr : ∀ j, j < xs.length → w.cell? ⟨b, j, none⟩ = some (.int .u64 ((xs.getD j 0 : Nat) : Int))) (hl : xs.length = n) : (execOp a.eval o).run P w = .ok (.value (.agg (rowOf false xs))) w := by
  have hc : (loadCells ⟨b, 0, none⟩ n).run P w = .ok (rowOf false xs) w := by
    rw [run_loadCells w ⟨b, 0, none⟩ n (fun j => .int .u64 ((xs.getD j 0 : Nat) : Int)) (fun j hj => by
      have := hr j (by omega)
      rw [Addr.add_lit]; simpa using this)]
    congr 1
    apply Array.ext
    · simp [rowOf, hl]
    · intro j h1 h2
      have : j < xs.length := by simpa [rowOf] using h2
      simp [rowOf, this]
  cases hi' : P.info? t with
  | none => rw [hi'] at hi; cases hi
  | some i =>
    rw [hi'] at hi
    have hs : i.size = n := by simpa using hi
    simp [execOp, ho, hx, Instr.loadAt, Instr.sureAddr, loadVar, isAgg, underlying, ht, sizeOf, typeInfo, hi', hs, hc]

theorem wpList_load_of {t e n b : Nat} {xs : List Nat} {x : Operand} (hg : o.guard = none) (ho : o.op = .load t x) (hx : a.eval x = .pointer (some ⟨b, 0, none⟩)) (ht : P.underlying t = some (.array n e)) (hi : (P.info? t).map (fun i => i.size) = some n)
    (hr : ∀ j, j < xs.length → w.cell? ⟨b, j, none⟩ = some (.int .u64 ((xs.getD j 0 : Nat) : Int))) (hl : xs.length = n) (h : wpList P ops Q rest (a.put o.dst (.agg (rowOf false xs))) w) : wpList P ops Q (o :: rest) a w :=
  L_value hg (run_load_of ho hx ht hi hr hl) h

theorem O_store {i : Nat} {ty : TypeId} {x y : Operand} {g t : Nat} {cells old : Array Value} {K : Act → World → Prop} (hi : ops[i]? = some o) (ho : o.op = .store ty x y) (hw : Region.wanted o (yielded ops a.tmps) = true)
    (hx : a.eval x = .pointer (some ⟨g, 0, none⟩)) (hy : a.eval y = .agg cells) (hg : w.heap[g]? = some (.cells old t (0, 0))) (hs : (P.info? ty).map (·.size) = some cells.size) (hold : old.size = cells.size) (h1 : cells.all (·.oneCell') = true)
    (hK : K (a.put o.dst undef) (w.setRow g cells)) : wpOp P ops Q i K a w := by
  unfold wpOp
  simp only [hi, hw, if_true]
  exact .inl (wp_store_row ty x y ho g cells hx hy t old hg hs hold h1 hK)

theorem region_held {S : World → Prop} {id : Nat} (hm : P.follows .mixedOrders = true) (h : wpAnyH P .any ops Q S ops.size (Array.replicate ops.size false) a w.drew) : (Code.region id ops true).wp P Q a w := wp_region_held hm h

theorem Hold.setRow {w0 W : World} {bs : List (Nat × List Nat)} (h : Hold w0 bs W) {g : Nat} (c : Array Value) (hg : w0.heap.size ≤ g) (hn : ∀ b xs, (b, xs) ∈ bs → b ≠ g) : Hold w0 bs (W.setRow g c) :=
  ⟨⟨h.below.os, h.below.tape, h.below.output, by simpa using h.below.size, fun k hk => (setRow_other W g k c (by omega)).trans (h.below.block k hk)⟩, fun b xs hm =>
    ⟨fun i hi => by rw [cell_setRow_other W g c ⟨b, i, none⟩ (hn b xs hm)]; exact (h.rows b xs hm).1 i hi, by simpa using (h.rows b xs hm).2⟩⟩

theorem Hold.newRow {w0 W : World} {bs : List (Nat × List Nat)} (h : Hold w0 bs W) (zs rs : List Nat) (t : TypeId) : Hold w0 ((W.heap.size, rs) :: bs) ((W.alloc (.cells (rowOf false zs) t)).setRow W.heap.size (rowOf false rs)) := by
  have h1 : Hold w0 bs (W.alloc (.cells (rowOf false zs) t)) := h.later ((Below.refl _ _).alloc (Nat.le_refl _) _)
  have h2 := h1.setRow (g := W.heap.size) (rowOf false rs) h.below.size (fun b xs hm => by have := (h.rows b xs hm).2; omega)
  refine ⟨h2.below, fun b xs hm => ?_⟩
  rcases List.mem_cons.1 hm with e | hm
  · cases e
    refine ⟨fun i hi => ?_, by simp⟩
    rw [cell_of_heap (setRow_heap _ _ (rowOf false zs) _ t (0, 0) (ha_same _ _ rfl))]
    simp [rowOf, hi]
  · exact h2.rows b xs hm

end
end Go.Proofs.Ytdbaaiplkngjkaa
