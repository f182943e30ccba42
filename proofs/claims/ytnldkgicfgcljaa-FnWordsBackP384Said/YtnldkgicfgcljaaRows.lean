/-
  No cell of these rows narrows 'for every input' (looked for: loops, veiled, ifaces, maps, wideKeys, modest, calm, conditions, laid).
  DERIVED. THE GIVEN ROWS OF THIS SEAT. 5 by the template 'for every input the law returns true; each argument reads behind the call as it read before'; 0 by the template 'total and deterministic' (their statements: YtnldkgicfgcljaaTotals.lean).
  GIVEN WITH THE SEED: the statements are not yours to turn. If you find one false, say at which input.
  Laid BY PROGRAM, IN A SANDBOX (cutbox-rows.mjs): the forced cells as the released guide's own fill.sh prints them over the translation d5485e6c32e9bd4c… (all of the seat's roots in one cut). By AI agents, Wed Nov 11 2026. No macro, syntax, notation, axiom, sorry.
-/
import Derived.Test.YtnldkgicfgcljaaChecked
import GoSem.Claim
import GoSem.ClaimJoined
import GoSem.ClaimMapViews
import Derived.JoinedTies
import Derived.KernelRfl
namespace Go.Proofs.Ytnldkgicfgcljaa
/- THE CELL 'sum', in the pinned program and in every row, IS THE sha256 OF THE DUMP (.gsa) THAT YtnldkgicfgcljaaProg.lean LOADS. Nothing in Lean hashes anything: it is a label: what it is worth is what the hold of that sum in a sandbox is worth. -/
noncomputable def Try.pinned : Pinned := { name := "ytnldkgicfgcljaa", sum := "d5485e6c32e9bd4cb3f30270db27a17a3d856148119ca9fcd926a2d89ba5a768", checked := Try.checked }
namespace Rows
def none {H : Type} : Left H := { results := [], args := [] }

/-- 'laws.FnExactMoveP384': WHATEVER THE INPUT: true; the input reads as it did. -/
def fnExactMoveP384Spec : ChangeSpec := { name := "fnExactMoveP384", fn := fun _ => fun
  | [d1, d2, d3] => { results := [.lit (.bool true)], args := [d1, d2, d3] }
  | _ => none }
def fnExactMoveP384Row : OpenClaim := { program := "ytnldkgicfgcljaa", sum := "d5485e6c32e9bd4cb3f30270db27a17a3d856148119ca9fcd926a2d89ba5a768", func := "loop.example/pub-g03334/laws.FnExactMoveP384", spec := "fnExactMoveP384", apart := false }
def FnExactMoveP384Said : Prop := fnExactMoveP384Row.holds Try.pinned (OpenSpec.ofChange fnExactMoveP384Spec)

/-- ITS FALSE NEIGHBOUR: 'it returns false'. Refute it at one input. -/
def fnExactMoveP384Wrong : ChangeSpec := { name := "fnExactMoveP384", fn := fun _ => fun
  | [d1, d2, d3] => { results := [.lit (.bool false)], args := [d1, d2, d3] }
  | _ => none }
def FnExactMoveP384WrongFalsely : Prop := fnExactMoveP384Row.holds Try.pinned (OpenSpec.ofChange fnExactMoveP384Wrong)

/-- 'laws.FnExactSubP384': WHATEVER THE INPUT: true; the input reads as it did. -/
def fnExactSubP384Spec : ChangeSpec := { name := "fnExactSubP384", fn := fun _ => fun
  | [d1, d2] => { results := [.lit (.bool true)], args := [d1, d2] }
  | _ => none }
def fnExactSubP384Row : OpenClaim := { program := "ytnldkgicfgcljaa", sum := "d5485e6c32e9bd4cb3f30270db27a17a3d856148119ca9fcd926a2d89ba5a768", func := "loop.example/pub-g03334/laws.FnExactSubP384", spec := "fnExactSubP384", inPlace := ["math/bits.Sub64", "math/bits.Add64"], apart := false }
def FnExactSubP384Said : Prop := fnExactSubP384Row.holds Try.pinned (OpenSpec.ofChange fnExactSubP384Spec)

/-- ITS FALSE NEIGHBOUR: 'it returns false'. Refute it at one input. -/
def fnExactSubP384Wrong : ChangeSpec := { name := "fnExactSubP384", fn := fun _ => fun
  | [d1, d2] => { results := [.lit (.bool false)], args := [d1, d2] }
  | _ => none }
def FnExactSubP384WrongFalsely : Prop := fnExactSubP384Row.holds Try.pinned (OpenSpec.ofChange fnExactSubP384Wrong)

/-- 'laws.FnExactWordsP384': WHATEVER THE INPUT: true; the input reads as it did. -/
def fnExactWordsP384Spec : ChangeSpec := { name := "fnExactWordsP384", fn := fun _ => fun
  | [d] => { results := [.lit (.bool true)], args := [d] }
  | _ => none }
def fnExactWordsP384Row : OpenClaim := { program := "ytnldkgicfgcljaa", sum := "d5485e6c32e9bd4cb3f30270db27a17a3d856148119ca9fcd926a2d89ba5a768", func := "loop.example/pub-g03334/laws.FnExactWordsP384", spec := "fnExactWordsP384", apart := false }
def FnExactWordsP384Said : Prop := fnExactWordsP384Row.holds Try.pinned (OpenSpec.ofChange fnExactWordsP384Spec)

/-- ITS FALSE NEIGHBOUR: 'it returns false'. Refute it at one input. -/
def fnExactWordsP384Wrong : ChangeSpec := { name := "fnExactWordsP384", fn := fun _ => fun
  | [d] => { results := [.lit (.bool false)], args := [d] }
  | _ => none }
def FnExactWordsP384WrongFalsely : Prop := fnExactWordsP384Row.holds Try.pinned (OpenSpec.ofChange fnExactWordsP384Wrong)

/-- 'laws.FnAddGroupP384': WHATEVER THE INPUT: true; the input reads as it did. -/
def fnAddGroupP384Spec : ChangeSpec := { name := "fnAddGroupP384", fn := fun _ => fun
  | [d1, d2, d3] => { results := [.lit (.bool true)], args := [d1, d2, d3] }
  | _ => none }
def fnAddGroupP384Row : OpenClaim := { program := "ytnldkgicfgcljaa", sum := "d5485e6c32e9bd4cb3f30270db27a17a3d856148119ca9fcd926a2d89ba5a768", func := "loop.example/pub-g03334/laws.FnAddGroupP384", spec := "fnAddGroupP384", inPlace := ["math/bits.Add64", "math/bits.Sub64"], apart := false }
def FnAddGroupP384Said : Prop := fnAddGroupP384Row.holds Try.pinned (OpenSpec.ofChange fnAddGroupP384Spec)

/-- ITS FALSE NEIGHBOUR: 'it returns false'. Refute it at one input. -/
def fnAddGroupP384Wrong : ChangeSpec := { name := "fnAddGroupP384", fn := fun _ => fun
  | [d1, d2, d3] => { results := [.lit (.bool false)], args := [d1, d2, d3] }
  | _ => none }
def FnAddGroupP384WrongFalsely : Prop := fnAddGroupP384Row.holds Try.pinned (OpenSpec.ofChange fnAddGroupP384Wrong)

/-- 'laws.FnWordsBackP384': WHATEVER THE INPUT: true; the input reads as it did. -/
def fnWordsBackP384Spec : ChangeSpec := { name := "fnWordsBackP384", fn := fun _ => fun
  | [d] => { results := [.lit (.bool true)], args := [d] }
  | _ => none }
def fnWordsBackP384Row : OpenClaim := { program := "ytnldkgicfgcljaa", sum := "d5485e6c32e9bd4cb3f30270db27a17a3d856148119ca9fcd926a2d89ba5a768", func := "loop.example/pub-g03334/laws.FnWordsBackP384", spec := "fnWordsBackP384", apart := false }
def FnWordsBackP384Said : Prop := fnWordsBackP384Row.holds Try.pinned (OpenSpec.ofChange fnWordsBackP384Spec)

/-- ITS FALSE NEIGHBOUR: 'it returns false'. Refute it at one input. -/
def fnWordsBackP384Wrong : ChangeSpec := { name := "fnWordsBackP384", fn := fun _ => fun
  | [d] => { results := [.lit (.bool false)], args := [d] }
  | _ => none }
def FnWordsBackP384WrongFalsely : Prop := fnWordsBackP384Row.holds Try.pinned (OpenSpec.ofChange fnWordsBackP384Wrong)

/- THE SECOND FORM. 'bulk': how many values and letters a reading holds, each counted each time it is reached (what is shared counts as often as it is met; a slice's spare places count too). A statement '..UptoSaid' is the law's where the arguments, and the package variables that the reading takes, are together of bulk at most 1048576: NARROWER than '..Said'. Prove '..Said' where nothing that the law and all that it calls make is longer than what came in: it says more and counts as full. Else prove '..UptoSaid'. A law counts once. -/
mutual
def uptoBulk {H : Type} : DataW H → Nat
  | .lit (.string bytes) => bytes.length + 1
  | .lit _ => 1
  | .nil => 1
  | .ptr d => uptoBulk d + 1
  | .slice elems spare => uptoBulkAll elems + uptoBulkAll spare + 1
  | .agg parts => uptoBulkAll parts + 1
  | .iface _ d => uptoBulk d + 1
  | .map entries => uptoBulkEntries entries + 1
  | .held _ => 1
def uptoBulkAll {H : Type} : List (DataW H) → Nat
  | [] => 0
  | d :: r => uptoBulk d + uptoBulkAll r
def uptoBulkEntries {H : Type} : List (Lit × DataW H) → Nat
  | [] => 0
  | x :: r => uptoBulkEntry x + uptoBulkEntries r
def uptoBulkEntry {H : Type} : Lit × DataW H → Nat
  | (.string bytes, d) => bytes.length + uptoBulk d + 1
  | (_, d) => uptoBulk d + 1
 end
def uptoSmall : (H : Type) → List (DataW H) → Bool := fun _ ds => decide (uptoBulkAll ds ≤ 1048576)
def OpenSpec.upto (s : _root_.Go.ChangeSpec) : _root_.Go.OpenSpec := { _root_.Go.OpenSpec.ofChange s with cond := some uptoSmall }

/-- 'laws.FnExactMoveP384', WHERE WHAT IT READS IS OF BULK AT MOST 1048576: true; the input reads as it did. -/
def fnExactMoveP384UptoRow : OpenClaim := { program := "ytnldkgicfgcljaa", sum := "d5485e6c32e9bd4cb3f30270db27a17a3d856148119ca9fcd926a2d89ba5a768", func := "loop.example/pub-g03334/laws.FnExactMoveP384", spec := "fnExactMoveP384", apart := false, narrowed := true }
def FnExactMoveP384UptoSaid : Prop := fnExactMoveP384UptoRow.holds Try.pinned (OpenSpec.upto fnExactMoveP384Spec)

/-- 'laws.FnExactSubP384', WHERE WHAT IT READS IS OF BULK AT MOST 1048576: true; the input reads as it did. -/
def fnExactSubP384UptoRow : OpenClaim := { program := "ytnldkgicfgcljaa", sum := "d5485e6c32e9bd4cb3f30270db27a17a3d856148119ca9fcd926a2d89ba5a768", func := "loop.example/pub-g03334/laws.FnExactSubP384", spec := "fnExactSubP384", inPlace := ["math/bits.Sub64", "math/bits.Add64"], apart := false, narrowed := true }
def FnExactSubP384UptoSaid : Prop := fnExactSubP384UptoRow.holds Try.pinned (OpenSpec.upto fnExactSubP384Spec)

/-- 'laws.FnExactWordsP384', WHERE WHAT IT READS IS OF BULK AT MOST 1048576: true; the input reads as it did. -/
def fnExactWordsP384UptoRow : OpenClaim := { program := "ytnldkgicfgcljaa", sum := "d5485e6c32e9bd4cb3f30270db27a17a3d856148119ca9fcd926a2d89ba5a768", func := "loop.example/pub-g03334/laws.FnExactWordsP384", spec := "fnExactWordsP384", apart := false, narrowed := true }
def FnExactWordsP384UptoSaid : Prop := fnExactWordsP384UptoRow.holds Try.pinned (OpenSpec.upto fnExactWordsP384Spec)

/-- 'laws.FnAddGroupP384', WHERE WHAT IT READS IS OF BULK AT MOST 1048576: true; the input reads as it did. -/
def fnAddGroupP384UptoRow : OpenClaim := { program := "ytnldkgicfgcljaa", sum := "d5485e6c32e9bd4cb3f30270db27a17a3d856148119ca9fcd926a2d89ba5a768", func := "loop.example/pub-g03334/laws.FnAddGroupP384", spec := "fnAddGroupP384", inPlace := ["math/bits.Add64", "math/bits.Sub64"], apart := false, narrowed := true }
def FnAddGroupP384UptoSaid : Prop := fnAddGroupP384UptoRow.holds Try.pinned (OpenSpec.upto fnAddGroupP384Spec)

/-- 'laws.FnWordsBackP384', WHERE WHAT IT READS IS OF BULK AT MOST 1048576: true; the input reads as it did. -/
def fnWordsBackP384UptoRow : OpenClaim := { program := "ytnldkgicfgcljaa", sum := "d5485e6c32e9bd4cb3f30270db27a17a3d856148119ca9fcd926a2d89ba5a768", func := "loop.example/pub-g03334/laws.FnWordsBackP384", spec := "fnWordsBackP384", apart := false, narrowed := true }
def FnWordsBackP384UptoSaid : Prop := fnWordsBackP384UptoRow.holds Try.pinned (OpenSpec.upto fnWordsBackP384Spec)

end Rows
end Go.Proofs.Ytnldkgicfgcljaa
