/-
  No cell of these rows narrows 'for every input' (looked for: loops, veiled, ifaces, maps, wideKeys, modest, calm, conditions, laid).
  DERIVED. THE GIVEN ROWS OF THIS SEAT. 5 by the template 'for every input the law returns true; each argument reads behind the call as it read before'; 0 by the template 'total and deterministic' (their statements: YtoiiihnjfhdnlaaTotals.lean).
  GIVEN WITH THE SEED: the statements are not yours to turn. If you find one false, say at which input.
  Laid BY PROGRAM, IN A SANDBOX (cutbox-rows.mjs): the forced cells as the released guide's own fill.sh prints them over the translation beb07f530e427f92… (all of the seat's roots in one cut). By AI agents, Wed Nov 11 2026. No macro, syntax, notation, axiom, sorry.
-/
import Derived.Test.YtoiiihnjfhdnlaaChecked
import GoSem.Claim
import GoSem.ClaimJoined
import GoSem.ClaimMapViews
import Derived.JoinedTies
import Derived.KernelRfl
namespace Go.Proofs.Ytoiiihnjfhdnlaa
/- THE CELL 'sum', in the pinned program and in every row, IS THE sha256 OF THE DUMP (.gsa) THAT YtoiiihnjfhdnlaaProg.lean LOADS. Nothing in Lean hashes anything: it is a label: what it is worth is what the hold of that sum in a sandbox is worth. -/
noncomputable def Try.pinned : Pinned := { name := "ytoiiihnjfhdnlaa", sum := "beb07f530e427f92b95d99719ab5c4b6a07bcad579993c028e30173b80f13bcc", checked := Try.checked }
namespace Rows
def none {H : Type} : Left H := { results := [], args := [] }

/-- 'laws.FnExactMoveP224': WHATEVER THE INPUT: true; the input reads as it did. -/
def fnExactMoveP224Spec : ChangeSpec := { name := "fnExactMoveP224", fn := fun _ => fun
  | [d1, d2, d3] => { results := [.lit (.bool true)], args := [d1, d2, d3] }
  | _ => none }
def fnExactMoveP224Row : OpenClaim := { program := "ytoiiihnjfhdnlaa", sum := "beb07f530e427f92b95d99719ab5c4b6a07bcad579993c028e30173b80f13bcc", func := "loop.example/pub-g03334/laws.FnExactMoveP224", spec := "fnExactMoveP224", apart := false }
def FnExactMoveP224Said : Prop := fnExactMoveP224Row.holds Try.pinned (OpenSpec.ofChange fnExactMoveP224Spec)

/-- ITS FALSE NEIGHBOUR: 'it returns false'. Refute it at one input. -/
def fnExactMoveP224Wrong : ChangeSpec := { name := "fnExactMoveP224", fn := fun _ => fun
  | [d1, d2, d3] => { results := [.lit (.bool false)], args := [d1, d2, d3] }
  | _ => none }
def FnExactMoveP224WrongFalsely : Prop := fnExactMoveP224Row.holds Try.pinned (OpenSpec.ofChange fnExactMoveP224Wrong)

/-- 'laws.FnExactSubP224': WHATEVER THE INPUT: true; the input reads as it did. -/
def fnExactSubP224Spec : ChangeSpec := { name := "fnExactSubP224", fn := fun _ => fun
  | [d1, d2] => { results := [.lit (.bool true)], args := [d1, d2] }
  | _ => none }
def fnExactSubP224Row : OpenClaim := { program := "ytoiiihnjfhdnlaa", sum := "beb07f530e427f92b95d99719ab5c4b6a07bcad579993c028e30173b80f13bcc", func := "loop.example/pub-g03334/laws.FnExactSubP224", spec := "fnExactSubP224", inPlace := ["math/bits.Sub64", "math/bits.Add64"], apart := false }
def FnExactSubP224Said : Prop := fnExactSubP224Row.holds Try.pinned (OpenSpec.ofChange fnExactSubP224Spec)

/-- ITS FALSE NEIGHBOUR: 'it returns false'. Refute it at one input. -/
def fnExactSubP224Wrong : ChangeSpec := { name := "fnExactSubP224", fn := fun _ => fun
  | [d1, d2] => { results := [.lit (.bool false)], args := [d1, d2] }
  | _ => none }
def FnExactSubP224WrongFalsely : Prop := fnExactSubP224Row.holds Try.pinned (OpenSpec.ofChange fnExactSubP224Wrong)

/-- 'laws.FnExactWordsP224': WHATEVER THE INPUT: true; the input reads as it did. -/
def fnExactWordsP224Spec : ChangeSpec := { name := "fnExactWordsP224", fn := fun _ => fun
  | [d] => { results := [.lit (.bool true)], args := [d] }
  | _ => none }
def fnExactWordsP224Row : OpenClaim := { program := "ytoiiihnjfhdnlaa", sum := "beb07f530e427f92b95d99719ab5c4b6a07bcad579993c028e30173b80f13bcc", func := "loop.example/pub-g03334/laws.FnExactWordsP224", spec := "fnExactWordsP224", apart := false }
def FnExactWordsP224Said : Prop := fnExactWordsP224Row.holds Try.pinned (OpenSpec.ofChange fnExactWordsP224Spec)

/-- ITS FALSE NEIGHBOUR: 'it returns false'. Refute it at one input. -/
def fnExactWordsP224Wrong : ChangeSpec := { name := "fnExactWordsP224", fn := fun _ => fun
  | [d] => { results := [.lit (.bool false)], args := [d] }
  | _ => none }
def FnExactWordsP224WrongFalsely : Prop := fnExactWordsP224Row.holds Try.pinned (OpenSpec.ofChange fnExactWordsP224Wrong)

/-- 'laws.FnAddGroupP224': WHATEVER THE INPUT: true; the input reads as it did. -/
def fnAddGroupP224Spec : ChangeSpec := { name := "fnAddGroupP224", fn := fun _ => fun
  | [d1, d2, d3] => { results := [.lit (.bool true)], args := [d1, d2, d3] }
  | _ => none }
def fnAddGroupP224Row : OpenClaim := { program := "ytoiiihnjfhdnlaa", sum := "beb07f530e427f92b95d99719ab5c4b6a07bcad579993c028e30173b80f13bcc", func := "loop.example/pub-g03334/laws.FnAddGroupP224", spec := "fnAddGroupP224", inPlace := ["math/bits.Add64", "math/bits.Sub64"], apart := false }
def FnAddGroupP224Said : Prop := fnAddGroupP224Row.holds Try.pinned (OpenSpec.ofChange fnAddGroupP224Spec)

/-- ITS FALSE NEIGHBOUR: 'it returns false'. Refute it at one input. -/
def fnAddGroupP224Wrong : ChangeSpec := { name := "fnAddGroupP224", fn := fun _ => fun
  | [d1, d2, d3] => { results := [.lit (.bool false)], args := [d1, d2, d3] }
  | _ => none }
def FnAddGroupP224WrongFalsely : Prop := fnAddGroupP224Row.holds Try.pinned (OpenSpec.ofChange fnAddGroupP224Wrong)

/-- 'laws.FnWordsBackP224': WHATEVER THE INPUT: true; the input reads as it did. -/
def fnWordsBackP224Spec : ChangeSpec := { name := "fnWordsBackP224", fn := fun _ => fun
  | [d] => { results := [.lit (.bool true)], args := [d] }
  | _ => none }
def fnWordsBackP224Row : OpenClaim := { program := "ytoiiihnjfhdnlaa", sum := "beb07f530e427f92b95d99719ab5c4b6a07bcad579993c028e30173b80f13bcc", func := "loop.example/pub-g03334/laws.FnWordsBackP224", spec := "fnWordsBackP224", apart := false }
def FnWordsBackP224Said : Prop := fnWordsBackP224Row.holds Try.pinned (OpenSpec.ofChange fnWordsBackP224Spec)

/-- ITS FALSE NEIGHBOUR: 'it returns false'. Refute it at one input. -/
def fnWordsBackP224Wrong : ChangeSpec := { name := "fnWordsBackP224", fn := fun _ => fun
  | [d] => { results := [.lit (.bool false)], args := [d] }
  | _ => none }
def FnWordsBackP224WrongFalsely : Prop := fnWordsBackP224Row.holds Try.pinned (OpenSpec.ofChange fnWordsBackP224Wrong)

/- THE SECOND FORM. 'bulk': how many values and letters a reading holds, each counted each time it is reached (what is shared counts as often as it is met; a slice's spare places count too). A statement '..UptoSaid' is the law's where the arguments, and the package variables that the reading takes, are together of bulk at most 1048576: NARROWER than '..Said'. Prove '..Said' where nothing that the law and all that it calls make is longer than what came in: it says more and counts as full. Else prove '..UptoSaid'. A law counts once. -/
mutual
def uptoBulk {H : Type} : DataW H → Nat
  | .lit (.string bytes) => bytes.length + 1
  | .lit _ => 1
  | .nil => 1
  | .ptr d => uptoBulk d + 1
  | .slice elems spare => uptoBulkAll elems + uptoBulkAll spare + 1
  | .agg parts => uptoBulkAll parts + 1
  | .iface _ d => uptoBulk d + 1
  | .map entries => uptoBulkEntries entries + 1
  | .held _ => 1
def uptoBulkAll {H : Type} : List (DataW H) → Nat
  | [] => 0
  | d :: r => uptoBulk d + uptoBulkAll r
def uptoBulkEntries {H : Type} : List (Lit × DataW H) → Nat
  | [] => 0
  | x :: r => uptoBulkEntry x + uptoBulkEntries r
def uptoBulkEntry {H : Type} : Lit × DataW H → Nat
  | (.string bytes, d) => bytes.length + uptoBulk d + 1
  | (_, d) => uptoBulk d + 1
 end
def uptoSmall : (H : Type) → List (DataW H) → Bool := fun _ ds => decide (uptoBulkAll ds ≤ 1048576)
def OpenSpec.upto (s : _root_.Go.ChangeSpec) : _root_.Go.OpenSpec := { _root_.Go.OpenSpec.ofChange s with cond := some uptoSmall }

/-- 'laws.FnExactMoveP224', WHERE WHAT IT READS IS OF BULK AT MOST 1048576: true; the input reads as it did. -/
def fnExactMoveP224UptoRow : OpenClaim := { program := "ytoiiihnjfhdnlaa", sum := "beb07f530e427f92b95d99719ab5c4b6a07bcad579993c028e30173b80f13bcc", func := "loop.example/pub-g03334/laws.FnExactMoveP224", spec := "fnExactMoveP224", apart := false, narrowed := true }
def FnExactMoveP224UptoSaid : Prop := fnExactMoveP224UptoRow.holds Try.pinned (OpenSpec.upto fnExactMoveP224Spec)

/-- 'laws.FnExactSubP224', WHERE WHAT IT READS IS OF BULK AT MOST 1048576: true; the input reads as it did. -/
def fnExactSubP224UptoRow : OpenClaim := { program := "ytoiiihnjfhdnlaa", sum := "beb07f530e427f92b95d99719ab5c4b6a07bcad579993c028e30173b80f13bcc", func := "loop.example/pub-g03334/laws.FnExactSubP224", spec := "fnExactSubP224", inPlace := ["math/bits.Sub64", "math/bits.Add64"], apart := false, narrowed := true }
def FnExactSubP224UptoSaid : Prop := fnExactSubP224UptoRow.holds Try.pinned (OpenSpec.upto fnExactSubP224Spec)

/-- 'laws.FnExactWordsP224', WHERE WHAT IT READS IS OF BULK AT MOST 1048576: true; the input reads as it did. -/
def fnExactWordsP224UptoRow : OpenClaim := { program := "ytoiiihnjfhdnlaa", sum := "beb07f530e427f92b95d99719ab5c4b6a07bcad579993c028e30173b80f13bcc", func := "loop.example/pub-g03334/laws.FnExactWordsP224", spec := "fnExactWordsP224", apart := false, narrowed := true }
def FnExactWordsP224UptoSaid : Prop := fnExactWordsP224UptoRow.holds Try.pinned (OpenSpec.upto fnExactWordsP224Spec)

/-- 'laws.FnAddGroupP224', WHERE WHAT IT READS IS OF BULK AT MOST 1048576: true; the input reads as it did. -/
def fnAddGroupP224UptoRow : OpenClaim := { program := "ytoiiihnjfhdnlaa", sum := "beb07f530e427f92b95d99719ab5c4b6a07bcad579993c028e30173b80f13bcc", func := "loop.example/pub-g03334/laws.FnAddGroupP224", spec := "fnAddGroupP224", inPlace := ["math/bits.Add64", "math/bits.Sub64"], apart := false, narrowed := true }
def FnAddGroupP224UptoSaid : Prop := fnAddGroupP224UptoRow.holds Try.pinned (OpenSpec.upto fnAddGroupP224Spec)

/-- 'laws.FnWordsBackP224', WHERE WHAT IT READS IS OF BULK AT MOST 1048576: true; the input reads as it did. -/
def fnWordsBackP224UptoRow : OpenClaim := { program := "ytoiiihnjfhdnlaa", sum := "beb07f530e427f92b95d99719ab5c4b6a07bcad579993c028e30173b80f13bcc", func := "loop.example/pub-g03334/laws.FnWordsBackP224", spec := "fnWordsBackP224", apart := false, narrowed := true }
def FnWordsBackP224UptoSaid : Prop := fnWordsBackP224UptoRow.holds Try.pinned (OpenSpec.upto fnWordsBackP224Spec)

end Rows
end Go.Proofs.Ytoiiihnjfhdnlaa
