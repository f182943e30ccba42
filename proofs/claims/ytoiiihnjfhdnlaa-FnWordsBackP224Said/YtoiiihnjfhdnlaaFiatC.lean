/-
  Bytes to words and words to bytes (p224FromBytes, p224ToBytes): what a call leaves in the first row.
-/
import Derived.Test.YtoiiihnjfhdnlaaFiatB
import Derived.Test.YtoiiihnjfhdnlaaNumY
namespace Go.Proofs.Ytoiiihnjfhdnlaa
open Go Go.RowKit

def termsY : List At → Int → List (At × Int)
  | [], _ => []
  | x :: l, k => (x, k) :: termsY l (k * 256)

theorem evalL_termsY (ρ : Nat → Nat) : ∀ (l : List At) (k : Int), evalL ρ (termsY l k) = k * (numY (evs ρ l) : Int)
  | [], k => by simp [termsY, evalL, evs, numY]
  | x :: l, k => by
    simp only [termsY, evalL, evalL_termsY ρ l, evs, List.map_cons, numY]
    rw [Int.natCast_add, Int.natCast_mul, Int.mul_add, Int.mul_assoc]
    rfl

def st2 (t0 : Nat) (b0 : Bool) (n0 : Nat) (t1 : Nat) (b1 : Bool) (n1 : Nat) (f : Func) : Option St :=
  match f.body with
  | some c => stepCode cfg f.ntmps c (mkSt [(t0, b0, n0), (t1, b1, n1)])
  | none => none

def fromAll (s : Option St) : Bool :=
  match s with
  | some S => match out0 S false, bnds S.facts.reverse (mkBd (lim true - 1) 4 28 .nil) with
    | some (t, r), some _ => Nat.beq t 25 && (isZero S.facts (terms r 1 ++ termsY (vars 4 28) (-1)) && Nat.beq r.length 4)
    | _, _ => false
  | none => false

def toAll (s : Option St) : Bool :=
  match s with
  | some S => match out0 S true, bnds S.facts.reverse (mkBd (lim false - 1) 28 4 .nil) with
    | some (t, r), some _ => Nat.beq t 32 && (isZero S.facts (termsY r 1 ++ terms (vars 28 4) (-1)) && Nat.beq r.length 28)
    | _, _ => false
  | none => false

theorem from_chk : fromAll (st2 25 false 4 32 true 28 Try.f27) = true := by kernel_rfl

/-- What a call over two rows leaves. -/
def Left2 (b : Bool) (t : TypeId) (Q : List Nat → Prop) (w : World) (B0 B1 : Nat) (e : Ending) (w' : World) : Prop :=
  e = .returned (.tuple #[]) ∧ ∃ rs, (∀ x ∈ rs, x < lim b) ∧ Q rs ∧ w'.heap[B0]? = some (.cells (rowOf b rs) t (0, 0)) ∧ Stays w w' [B0, B1]

theorem fiat_from (w : World) (B0 B1 : Nat) (zs xs : List Nat) (hd : B0 ≠ B1) (lz : zs.length = 4) (lx : xs.length = 28) (wz : ∀ x ∈ zs, x < lim false) (wx : ∀ x ∈ xs, x < lim true)
    (h0 : w.heap[B0]? = some (.cells (rowOf false zs) 25 (0, 0))) (h1 : w.heap[B1]? = some (.cells (rowOf true xs) 32 (0, 0))) :
    Calls Try.prog 27 #[.pointer (some ⟨B0, 0, none⟩), .pointer (some ⟨B1, 0, none⟩)] w
      (Left2 false 25 (fun rs => num rs = numY xs ∧ rs.length = 4) w B0 B1) := by
  have hk := from_chk
  unfold fromAll st2 at hk
  split at hk
  · rename_i S hS
    split at hS
    · rename_i c hc
      split at hk
      · rename_i t r T ho hT
        simp only [Bool.and_eq_true] at hk
        have ht : t = 25 := Nat.eq_of_beq_eq_true hk.1
        subst ht
        exact run2 cfg_ok mixed Try.func27 hc rfl (by rw [Try.ntmps27]; omega) hS ho hT B0 B1 zs xs hd lz lx wz wx h0 h1 (fun ρ hf _ ex => by
          have hz := isZero_sound hk.2.1 hf
          rw [evalL_append, evalL_terms, evalL_termsY, ex] at hz
          exact ⟨by omega, by simpa [evs] using Nat.eq_of_beq_eq_true hk.2.2⟩)
      · cases hk
    · cases hS
  · cases hk

end Go.Proofs.Ytoiiihnjfhdnlaa
