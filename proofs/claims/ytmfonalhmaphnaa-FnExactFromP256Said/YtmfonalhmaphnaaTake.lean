/-
  Steps of a region whose order is drawn; the frame is named by its slots.
-/
import Derived.Test.YtmfonalhmaphnaaStep
namespace Go.Proofs.Ytmfonalhmaphnaa
open Go Go.RowKit

section
variable {P : Program} {ops : Array Oper} {Q : Exit → Act → World → Prop} {a : Act} {w : World} {i : Nat} {o : Oper} {K : Act → World → Prop}
theorem t_call {f : FuncId} {x y : Operand} {ts : Array TypeId} {u v : Value} {R : Ending → World → Prop} (d : Option Nat) (hi : ops[i]? = some o) (hd : o.dst = d) (ho : o.op = .call ⟨.value (.func f), #[x, y], ts⟩)
    (hw : Region.wanted o (yielded ops a.tmps) = true) (hrun : ∀ vs w, (callFunc f vs).run P w = .ok (.enter f vs) w) (hx : a.eval x = u) (hy : a.eval y = v) (hc : Calls P f #[u, v] w R) (hR : ∀ e w', R e w' → ∃ v, e = .returned v ∧ K (a.put d v) w') :
    wpOp P ops Q i K a w := o_call hi ho hw hrun (by simp [hx, hy]) hc (by rw [hd]; exact hR)
theorem t_value {v : Value} {w' : World} (d : Option Nat) (hi : ops[i]? = some o) (hd : o.dst = d) (hw : Region.wanted o (yielded ops a.tmps) = true) (hrun : (execOp a.eval o).run P w = .ok (.value v) w') (hK : K (a.put d v) w') :
    wpOp P ops Q i K a w := o_value hi hw hrun (by rw [hd]; exact hK)
theorem t_store {ty : TypeId} {x y : Operand} {g t : Nat} {cells old : Array Value} (hi : ops[i]? = some o) (hd : o.dst = none) (ho : o.op = .store ty x y) (hw : Region.wanted o (yielded ops a.tmps) = true)
    (hx : a.eval x = .pointer (some ⟨g, 0, none⟩)) (hy : a.eval y = .agg cells) (hg : w.heap[g]? = some (.cells old t (0, 0))) (hs : (P.info? ty).map (·.size) = some cells.size) (hold : old.size = cells.size) (h1 : cells.all (·.oneCell') = true)
    (hK : K a (w.setRow g cells)) : wpOp P ops Q i K a w := O_store hi ho hw hx hy hg hs hold h1 (by rw [hd]; exact hK)
theorem t_load {w0 : World} {bs : List (Nat × List Nat)} {t e n b : Nat} {xs : List Nat} {x : Operand} {it : TypeInfo} {fuel : Nat} {listed : Array Bool} (i : Nat) (d : Option Nat) (hi : ops[i]? = some o) (hd : o.dst = d)
    (hs : Region.noSelect ops = true) (hf : Region.free .any ops listed i = true) (hr : (Region.ready .any ops listed).contains i = true)
    (hQ : ∀ c a w, Q (.panic c) (a.put d (.agg (rowOf false xs))) w → Q (.panic c) a w)
    (ho : o.op = .load t x) (hw : Region.wanted o (yielded ops a.tmps) = true) (hx : a.eval x = .pointer (some ⟨b, 0, none⟩))
    (ht : P.underlying t = some (.array n e)) (hit : P.info? t = some it) (hsz : it.size = n) (hm : (b, xs) ∈ bs) (hl : xs.length = n) (hS : Hold w0 bs w)
    (h : wpAnyH P .any ops Q (Hold w0 bs) fuel (listed.setIfInBounds i true) (a.put d (.agg (rowOf false xs))) w) : wpAnyH P .any ops Q (Hold w0 bs) (fuel + 1) listed a w :=
  wpAnyH_take hi hs hf hr (by rw [hd]; exact hQ) (y_load ho hw hx ht hit hsz hm hl) hS (by rw [hd]; exact h)
end

theorem t_call0 {P : Program} {ops : Array Oper} {Q : Exit → Act → World → Prop} {a : Act} {w : World} {i : Nat} {o : Oper} {K : Act → World → Prop} {f : FuncId} {ts : Array TypeId} {R : Ending → World → Prop} (d : Option Nat) (hi : ops[i]? = some o) (hd : o.dst = d)
    (ho : o.op = .call ⟨.value (.func f), #[], ts⟩) (hw : Region.wanted o (yielded ops a.tmps) = true) (hrun : ∀ vs w, (callFunc f vs).run P w = .ok (.enter f vs) w) (hc : Calls P f #[] w R) (hR : ∀ e w', R e w' → ∃ v, e = .returned v ∧ K (a.put d v) w') :
    wpOp P ops Q i K a w := o_call hi ho hw hrun (by simp) hc (by rw [hd]; exact hR)


theorem sl_run {o : Oper} {a : Act} {b : Nat} {x : Operand} (ho : o.op = .slice 23 x none none none) (hx : a.eval x = .pointer (some ⟨b, 0, none⟩)) (w : World) :
    (execOp a.eval o).run Try.prog w = .ok (.value (.slice (some ⟨b, 0, none⟩) 4 4)) w := by
  simp only [execOp, ho, hx, Option.map_none]
  kernel_rfl

theorem t_slice {ops : Array Oper} {Q : Exit → Act → World → Prop} {S : World → Prop} {a : Act} {w : World} {o : Oper} {b : Nat} {x : Operand} {fuel : Nat} {listed : Array Bool} (i : Nat) (d : Option Nat) (hi : ops[i]? = some o) (hd : o.dst = d)
    (hs : Region.noSelect ops = true) (hf : Region.free .any ops listed i = true) (hr : (Region.ready .any ops listed).contains i = true)
    (hQ : ∀ c a w, Q (.panic c) (a.put d (.slice (some ⟨b, 0, none⟩) 4 4)) w → Q (.panic c) a w) (ho : o.op = .slice 23 x none none none) (hx : a.eval x = .pointer (some ⟨b, 0, none⟩)) (hw : Region.wanted o (yielded ops a.tmps) = true) (hS : S w)
    (h : wpAnyH Try.prog .any ops Q S fuel (listed.setIfInBounds i true) (a.put d (.slice (some ⟨b, 0, none⟩) 4 4)) w) : wpAnyH Try.prog .any ops Q S (fuel + 1) listed a w :=
  wpAnyH_take hi hs hf hr (by rw [hd]; exact hQ) (.inl ⟨hw, fun w _ => sl_run ho hx w⟩) hS (by rw [hd]; exact h)

end Go.Proofs.Ytmfonalhmaphnaa
