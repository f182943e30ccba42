/-
  A region that draws its order, whose operations go one behind the other but for slices of whole arrays (which look at no memory): one walk in the order of the text serves every order.
-/
import Derived.StillTail
import Derived.WalkKit
namespace Go.Proofs.Ytdbaaiplkngjkaa
open Go

/-- A slice of a whole array, of a type on the list. -/
def isSl (ts : List Nat) : Op → Bool
  | .slice t _ none none none => ts.any (Nat.beq t)
  | _ => false

/-- In the text's order: a slice that may come up, from which the others are apart; or the one operation that may come up. -/
def steadyFrom (ts : List Nat) (ops : Array Oper) : List Oper → Nat → Array Bool → Bool
  | [], _, listed => (Region.ready .any ops listed).isEmpty
  | o :: l, k, listed =>
    (match isSl ts o.op with
      | true => (Region.ready .any ops listed).contains k && Region.free .any ops listed k
      | false => decide (Region.ready .any ops listed = [k])) && steadyFrom ts ops l (k + 1) (listed.setIfInBounds k true)

def steadyB (ts : List Nat) (l : List Oper) : Bool := Region.noSelect l.toArray && steadyFrom ts l.toArray l 0 (Array.replicate l.toArray.size false)

variable {P : Program} {Q : Exit → Act → World → Prop}

theorem sl_yields {ts : List Nat} (hts : ∀ t ∈ ts, ∃ n e i, P.underlying t = some (.array n e) ∧ P.info? e = some i) {ops : Array Oper} {o : Oper} (ho : isSl ts o.op = true) {a : Act} {w : World} {K : Act → World → Prop}
    (h : if Region.wanted o (yielded ops a.tmps) then o.wp P a w K Q ∨ (o.asks P a w ∧ LetsOut Q) else K (a.put o.dst undef) w) : ∃ v, Yields P ops o v a ∧ K (a.put o.dst v) w := by
  by_cases hw : Region.wanted o (yielded ops a.tmps) = true
  · rw [if_pos hw] at h
    obtain ⟨dst, op, ty, pos, after, guard⟩ := o
    cases op with
    | slice t x lo hi mx =>
      cases lo with
      | some _ => simp [isSl] at ho
      | none =>
      cases hi with
      | some _ => simp [isSl] at ho
      | none =>
      cases mx with
      | some _ => simp [isSl] at ho
      | none =>
      simp only [isSl, List.any_eq_true] at ho
      obtain ⟨t', ht', hb⟩ := ho
      have : t = t' := Nat.eq_of_beq_eq_true hb
      subst this
      obtain ⟨n, e, i, hu, hinf⟩ := hts t ht'
      have hrun : ∀ w : World, (execOp a.eval (⟨dst, .slice t x none none none, ty, pos, after, guard⟩ : Oper)).run P w =
          match a.eval x with
          | .pointer (some p) => .ok (.value (.slice (some (if n = 0 then p else p.add 0)) n n)) w
          | _ => .halt (.stuck "an address expected (no nilCheck in front?)") w := by
        intro w
        cases hx : a.eval x <;> simp [execOp, hx, Instr.sliceAt, underlying, hu, Instr.sureAddr, Instr.sliceBounds, sizeOf, typeInfo, hinf]
        rename_i p
        cases p <;> simp
      have hev : ∀ w : World, ((execOp a.eval (⟨dst, .slice t x none none none, ty, pos, after, guard⟩ : Oper)).runT P w #[]).2 = #[] := by
        intro w
        have e0 : ∀ v : Value, (Sem.runT P (do let v ← Instr.sliceAt t v none none none; pure (Next.value v) : Sem Next) w #[]).2 = #[] := by
          intro v
          simp only [Instr.sliceAt, underlying, program, bind, Sem.bind, pure, Sem.runT, hu]
          cases v with
          | pointer p =>
            cases p with
            | none => rfl
            | some p => simp only [Instr.sureAddr, Instr.sliceBounds, sizeOf, typeInfo, program, bind, Sem.bind, pure, Sem.runT, hinf]
          | _ => rfl
        exact e0 (a.eval x)
      rcases h with h | ⟨⟨hm, _⟩, _⟩
      · unfold Oper.wp at h
        rw [hrun] at h
        cases hx : a.eval x with
        | pointer p =>
          cases p with
          | none => rw [hx] at h; exact h.elim
          | some p =>
            rw [hx] at h
            refine ⟨_, .inl ⟨hw, fun w => ?_⟩, h⟩
            rw [hrun, hx]
        | _ => rw [hx] at h; exact h.elim
      · rw [hev] at hm; simp at hm
    | _ => simp [isSl] at ho
  · rw [if_neg hw] at h
    exact ⟨undef, .inr ⟨by simpa using hw, rfl⟩, h⟩

theorem wpAny_steady {ts : List Nat} (hts : ∀ t ∈ ts, ∃ n e i, P.underlying t = some (.array n e) ∧ P.info? e = some i) {ops : Array Oper} (hs : Region.noSelect ops = true) (hQ : ∀ c a d v w, Q (.panic c) (Act.put a d v) w → Q (.panic c) a w) :
    ∀ (l : List Oper) (k : Nat) (listed : Array Bool) (a : Act) (w : World), (∀ j, l[j]? = ops[k + j]?) → steadyFrom ts ops l k listed = true → wpList P ops Q l a w → wpAny P .any ops Q l.length listed a w
  | [], k, listed, a, w, _, hB, h => ⟨by simpa [steadyFrom] using hB, h⟩
  | o :: l, k, listed, a, w, hl, hB, h => by
    have h0 : ops[k]? = some o := by simpa using (hl 0).symm
    have hl' : ∀ j, l[j]? = ops[k + 1 + j]? := fun j => by have := hl (j + 1); simpa [Nat.add_assoc, Nat.add_comm 1 j] using this
    simp only [steadyFrom, Bool.and_eq_true] at hB
    obtain ⟨hB1, hB2⟩ := hB
    unfold wpList at h
    split at hB1
    · rename_i hsl
      simp only [Bool.and_eq_true] at hB1
      obtain ⟨v, hy, hk⟩ := sl_yields hts hsl h
      exact wpAny_take h0 hs hB1.2 hB1.1 (fun c a w => hQ c a _ v w) hy (wpAny_steady hts hs hQ l (k + 1) _ _ _ hl' hB2 hk)
    · have hr : Region.ready .any ops listed = [k] := of_decide_eq_true hB1
      refine ⟨fun h1 => (by rw [hr] at h1; cases h1), fun i hi => ?_⟩
      rw [hr] at hi
      have hik : i = k := by simpa using hi
      subst hik
      have hw : wpOp P ops Q i (wpList P ops Q l) a w := by unfold wpOp; simp only [h0]; exact h
      exact wpOp_mono (fun a' w' h' => wpAny_steady hts hs hQ l (i + 1) _ a' w' hl' hB2 h') hw

theorem wp_region_steady {ts : List Nat} (hts : ∀ t ∈ ts, ∃ n e i, P.underlying t = some (.array n e) ∧ P.info? e = some i) {id : Nat} {l : List Oper} {a : Act} {w : World} (hm : P.follows .mixedOrders = true) (hB : steadyB ts l = true)
    (hQ : ∀ c a d v w, Q (.panic c) (Act.put a d v) w → Q (.panic c) a w) (h : wpList P l.toArray Q l a w.drew) : (Code.region id l.toArray true).wp P Q a w := by
  simp only [steadyB, Bool.and_eq_true] at hB
  refine wp_region_any hm ?_
  have := wpAny_steady hts hB.1 hQ l 0 _ a _ (by simp) hB.2 h
  simpa using this

end Go.Proofs.Ytdbaaiplkngjkaa
