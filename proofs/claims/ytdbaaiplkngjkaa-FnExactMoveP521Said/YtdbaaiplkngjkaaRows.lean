/-
  No cell of these rows narrows 'for every input' (looked for: loops, veiled, ifaces, maps, wideKeys, modest, calm, conditions, laid).
  DERIVED. THE GIVEN ROWS OF THIS SEAT. 3 by the template 'for every input the law returns true; each argument reads behind the call as it read before'; 0 by the template 'total and deterministic' (their statements: YtdbaaiplkngjkaaTotals.lean).
  GIVEN WITH THE SEED: the statements are not yours to turn. If you find one false, say at which input.
  Laid BY PROGRAM, IN A SANDBOX (cutbox-rows.mjs): the forced cells as the released guide's own fill.sh prints them over the translation 2e6930157773c680… (all of the seat's roots in one cut). By AI agents, Wed Nov 11 2026. No macro, syntax, notation, axiom, sorry.
-/
import Derived.Test.YtdbaaiplkngjkaaChecked
import GoSem.Claim
import GoSem.ClaimJoined
import GoSem.ClaimMapViews
import Derived.JoinedTies
import Derived.KernelRfl
namespace Go.Proofs.Ytdbaaiplkngjkaa
/- THE CELL 'sum', in the pinned program and in every row, IS THE sha256 OF THE DUMP (.gsa) THAT YtdbaaiplkngjkaaProg.lean LOADS. Nothing in Lean hashes anything: it is a label: what it is worth is what the hold of that sum in a sandbox is worth. -/
noncomputable def Try.pinned : Pinned := { name := "ytdbaaiplkngjkaa", sum := "2e6930157773c6808fc2a802f23c4475ff28211faeb33d5e2a707226147ba599", checked := Try.checked }
namespace Rows
def none {H : Type} : Left H := { results := [], args := [] }

/-- 'laws.FnExactMoveP521': WHATEVER THE INPUT: true; the input reads as it did. -/
def fnExactMoveP521Spec : ChangeSpec := { name := "fnExactMoveP521", fn := fun _ => fun
  | [d1, d2, d3] => { results := [.lit (.bool true)], args := [d1, d2, d3] }
  | _ => none }
def fnExactMoveP521Row : OpenClaim := { program := "ytdbaaiplkngjkaa", sum := "2e6930157773c6808fc2a802f23c4475ff28211faeb33d5e2a707226147ba599", func := "loop.example/pub-g03334/laws.FnExactMoveP521", spec := "fnExactMoveP521", apart := false }
def FnExactMoveP521Said : Prop := fnExactMoveP521Row.holds Try.pinned (OpenSpec.ofChange fnExactMoveP521Spec)

/-- ITS FALSE NEIGHBOUR: 'it returns false'. Refute it at one input. -/
def fnExactMoveP521Wrong : ChangeSpec := { name := "fnExactMoveP521", fn := fun _ => fun
  | [d1, d2, d3] => { results := [.lit (.bool false)], args := [d1, d2, d3] }
  | _ => none }
def FnExactMoveP521WrongFalsely : Prop := fnExactMoveP521Row.holds Try.pinned (OpenSpec.ofChange fnExactMoveP521Wrong)

/-- 'laws.FnExactSubP521': WHATEVER THE INPUT: true; the input reads as it did. -/
def fnExactSubP521Spec : ChangeSpec := { name := "fnExactSubP521", fn := fun _ => fun
  | [d1, d2] => { results := [.lit (.bool true)], args := [d1, d2] }
  | _ => none }
def fnExactSubP521Row : OpenClaim := { program := "ytdbaaiplkngjkaa", sum := "2e6930157773c6808fc2a802f23c4475ff28211faeb33d5e2a707226147ba599", func := "loop.example/pub-g03334/laws.FnExactSubP521", spec := "fnExactSubP521", inPlace := ["math/bits.Sub64", "math/bits.Add64"], apart := false }
def FnExactSubP521Said : Prop := fnExactSubP521Row.holds Try.pinned (OpenSpec.ofChange fnExactSubP521Spec)

/-- ITS FALSE NEIGHBOUR: 'it returns false'. Refute it at one input. -/
def fnExactSubP521Wrong : ChangeSpec := { name := "fnExactSubP521", fn := fun _ => fun
  | [d1, d2] => { results := [.lit (.bool false)], args := [d1, d2] }
  | _ => none }
def FnExactSubP521WrongFalsely : Prop := fnExactSubP521Row.holds Try.pinned (OpenSpec.ofChange fnExactSubP521Wrong)

/-- 'laws.FnAddGroupP521': WHATEVER THE INPUT: true; the input reads as it did. -/
def fnAddGroupP521Spec : ChangeSpec := { name := "fnAddGroupP521", fn := fun _ => fun
  | [d1, d2, d3] => { results := [.lit (.bool true)], args := [d1, d2, d3] }
  | _ => none }
def fnAddGroupP521Row : OpenClaim := { program := "ytdbaaiplkngjkaa", sum := "2e6930157773c6808fc2a802f23c4475ff28211faeb33d5e2a707226147ba599", func := "loop.example/pub-g03334/laws.FnAddGroupP521", spec := "fnAddGroupP521", inPlace := ["math/bits.Add64", "math/bits.Sub64"], apart := false }
def FnAddGroupP521Said : Prop := fnAddGroupP521Row.holds Try.pinned (OpenSpec.ofChange fnAddGroupP521Spec)

/-- ITS FALSE NEIGHBOUR: 'it returns false'. Refute it at one input. -/
def fnAddGroupP521Wrong : ChangeSpec := { name := "fnAddGroupP521", fn := fun _ => fun
  | [d1, d2, d3] => { results := [.lit (.bool false)], args := [d1, d2, d3] }
  | _ => none }
def FnAddGroupP521WrongFalsely : Prop := fnAddGroupP521Row.holds Try.pinned (OpenSpec.ofChange fnAddGroupP521Wrong)

/- THE SECOND FORM. 'bulk': how many values and letters a reading holds, each counted each time it is reached (what is shared counts as often as it is met; a slice's spare places count too). A statement '..UptoSaid' is the law's where the arguments, and the package variables that the reading takes, are together of bulk at most 1048576: NARROWER than '..Said'. Prove '..Said' where nothing that the law and all that it calls make is longer than what came in: it says more and counts as full. Else prove '..UptoSaid'. A law counts once. -/
mutual
def uptoBulk {H : Type} : DataW H → Nat
  | .lit (.string bytes) => bytes.length + 1
  | .lit _ => 1
  | .nil => 1
  | .ptr d => uptoBulk d + 1
  | .slice elems spare => uptoBulkAll elems + uptoBulkAll spare + 1
  | .agg parts => uptoBulkAll parts + 1
  | .iface _ d => uptoBulk d + 1
  | .map entries => uptoBulkEntries entries + 1
  | .held _ => 1
def uptoBulkAll {H : Type} : List (DataW H) → Nat
  | [] => 0
  | d :: r => uptoBulk d + uptoBulkAll r
def uptoBulkEntries {H : Type} : List (Lit × DataW H) → Nat
  | [] => 0
  | x :: r => uptoBulkEntry x + uptoBulkEntries r
def uptoBulkEntry {H : Type} : Lit × DataW H → Nat
  | (.string bytes, d) => bytes.length + uptoBulk d + 1
  | (_, d) => uptoBulk d + 1
 end
def uptoSmall : (H : Type) → List (DataW H) → Bool := fun _ ds => decide (uptoBulkAll ds ≤ 1048576)
def OpenSpec.upto (s : _root_.Go.ChangeSpec) : _root_.Go.OpenSpec := { _root_.Go.OpenSpec.ofChange s with cond := some uptoSmall }

/-- 'laws.FnExactMoveP521', WHERE WHAT IT READS IS OF BULK AT MOST 1048576: true; the input reads as it did. -/
def fnExactMoveP521UptoRow : OpenClaim := { program := "ytdbaaiplkngjkaa", sum := "2e6930157773c6808fc2a802f23c4475ff28211faeb33d5e2a707226147ba599", func := "loop.example/pub-g03334/laws.FnExactMoveP521", spec := "fnExactMoveP521", apart := false, narrowed := true }
def FnExactMoveP521UptoSaid : Prop := fnExactMoveP521UptoRow.holds Try.pinned (OpenSpec.upto fnExactMoveP521Spec)

/-- 'laws.FnExactSubP521', WHERE WHAT IT READS IS OF BULK AT MOST 1048576: true; the input reads as it did. -/
def fnExactSubP521UptoRow : OpenClaim := { program := "ytdbaaiplkngjkaa", sum := "2e6930157773c6808fc2a802f23c4475ff28211faeb33d5e2a707226147ba599", func := "loop.example/pub-g03334/laws.FnExactSubP521", spec := "fnExactSubP521", inPlace := ["math/bits.Sub64", "math/bits.Add64"], apart := false, narrowed := true }
def FnExactSubP521UptoSaid : Prop := fnExactSubP521UptoRow.holds Try.pinned (OpenSpec.upto fnExactSubP521Spec)

/-- 'laws.FnAddGroupP521', WHERE WHAT IT READS IS OF BULK AT MOST 1048576: true; the input reads as it did. -/
def fnAddGroupP521UptoRow : OpenClaim := { program := "ytdbaaiplkngjkaa", sum := "2e6930157773c6808fc2a802f23c4475ff28211faeb33d5e2a707226147ba599", func := "loop.example/pub-g03334/laws.FnAddGroupP521", spec := "fnAddGroupP521", inPlace := ["math/bits.Add64", "math/bits.Sub64"], apart := false, narrowed := true }
def FnAddGroupP521UptoSaid : Prop := fnAddGroupP521UptoRow.holds Try.pinned (OpenSpec.upto fnAddGroupP521Spec)

end Rows
end Go.Proofs.Ytdbaaiplkngjkaa
