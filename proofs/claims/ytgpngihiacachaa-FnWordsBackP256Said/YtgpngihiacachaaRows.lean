/-
  No cell of these rows narrows 'for every input' (looked for: loops, veiled, ifaces, maps, wideKeys, modest, calm, conditions, laid).
  DERIVED. THE GIVEN ROWS OF THIS SEAT. 5 by the template 'for every input the law returns true; each argument reads behind the call as it read before'; 0 by the template 'total and deterministic' (their statements: YtgpngihiacachaaTotals.lean).
  GIVEN WITH THE SEED: the statements are not yours to turn. If you find one false, say at which input.
  Laid BY PROGRAM, IN A SANDBOX (cutbox-rows.mjs): the forced cells as the released guide's own fill.sh prints them over the translation 6845600c15687091… (all of the seat's roots in one cut). By AI agents, Wed Nov 11 2026. No macro, syntax, notation, axiom, sorry.
-/
import Derived.Test.YtgpngihiacachaaChecked
import GoSem.Claim
import GoSem.ClaimJoined
import GoSem.ClaimMapViews
import Derived.JoinedTies
import Derived.KernelRfl
namespace Go.Proofs.Ytgpngihiacachaa
/- THE CELL 'sum', in the pinned program and in every row, IS THE sha256 OF THE DUMP (.gsa) THAT YtgpngihiacachaaProg.lean LOADS. Nothing in Lean hashes anything: it is a label: what it is worth is what the hold of that sum in a sandbox is worth. -/
noncomputable def Try.pinned : Pinned := { name := "ytgpngihiacachaa", sum := "6845600c1568709104d5e6ca3fd1282faa80420ffe08fb035e626f9348fb914e", checked := Try.checked }
namespace Rows
def none {H : Type} : Left H := { results := [], args := [] }

/-- 'laws.FnExactMoveP256': WHATEVER THE INPUT: true; the input reads as it did. -/
def fnExactMoveP256Spec : ChangeSpec := { name := "fnExactMoveP256", fn := fun _ => fun
  | [d1, d2, d3] => { results := [.lit (.bool true)], args := [d1, d2, d3] }
  | _ => none }
def fnExactMoveP256Row : OpenClaim := { program := "ytgpngihiacachaa", sum := "6845600c1568709104d5e6ca3fd1282faa80420ffe08fb035e626f9348fb914e", func := "loop.example/pub-g03334/laws.FnExactMoveP256", spec := "fnExactMoveP256", apart := false }
def FnExactMoveP256Said : Prop := fnExactMoveP256Row.holds Try.pinned (OpenSpec.ofChange fnExactMoveP256Spec)

/-- ITS FALSE NEIGHBOUR: 'it returns false'. Refute it at one input. -/
def fnExactMoveP256Wrong : ChangeSpec := { name := "fnExactMoveP256", fn := fun _ => fun
  | [d1, d2, d3] => { results := [.lit (.bool false)], args := [d1, d2, d3] }
  | _ => none }
def FnExactMoveP256WrongFalsely : Prop := fnExactMoveP256Row.holds Try.pinned (OpenSpec.ofChange fnExactMoveP256Wrong)

/-- 'laws.FnExactSubP256': WHATEVER THE INPUT: true; the input reads as it did. -/
def fnExactSubP256Spec : ChangeSpec := { name := "fnExactSubP256", fn := fun _ => fun
  | [d1, d2] => { results := [.lit (.bool true)], args := [d1, d2] }
  | _ => none }
def fnExactSubP256Row : OpenClaim := { program := "ytgpngihiacachaa", sum := "6845600c1568709104d5e6ca3fd1282faa80420ffe08fb035e626f9348fb914e", func := "loop.example/pub-g03334/laws.FnExactSubP256", spec := "fnExactSubP256", inPlace := ["math/bits.Sub64", "math/bits.Add64"], apart := false }
def FnExactSubP256Said : Prop := fnExactSubP256Row.holds Try.pinned (OpenSpec.ofChange fnExactSubP256Spec)

/-- ITS FALSE NEIGHBOUR: 'it returns false'. Refute it at one input. -/
def fnExactSubP256Wrong : ChangeSpec := { name := "fnExactSubP256", fn := fun _ => fun
  | [d1, d2] => { results := [.lit (.bool false)], args := [d1, d2] }
  | _ => none }
def FnExactSubP256WrongFalsely : Prop := fnExactSubP256Row.holds Try.pinned (OpenSpec.ofChange fnExactSubP256Wrong)

/-- 'laws.FnExactWordsP256': WHATEVER THE INPUT: true; the input reads as it did. -/
def fnExactWordsP256Spec : ChangeSpec := { name := "fnExactWordsP256", fn := fun _ => fun
  | [d] => { results := [.lit (.bool true)], args := [d] }
  | _ => none }
def fnExactWordsP256Row : OpenClaim := { program := "ytgpngihiacachaa", sum := "6845600c1568709104d5e6ca3fd1282faa80420ffe08fb035e626f9348fb914e", func := "loop.example/pub-g03334/laws.FnExactWordsP256", spec := "fnExactWordsP256", apart := false }
def FnExactWordsP256Said : Prop := fnExactWordsP256Row.holds Try.pinned (OpenSpec.ofChange fnExactWordsP256Spec)

/-- ITS FALSE NEIGHBOUR: 'it returns false'. Refute it at one input. -/
def fnExactWordsP256Wrong : ChangeSpec := { name := "fnExactWordsP256", fn := fun _ => fun
  | [d] => { results := [.lit (.bool false)], args := [d] }
  | _ => none }
def FnExactWordsP256WrongFalsely : Prop := fnExactWordsP256Row.holds Try.pinned (OpenSpec.ofChange fnExactWordsP256Wrong)

/-- 'laws.FnAddGroupP256': WHATEVER THE INPUT: true; the input reads as it did. -/
def fnAddGroupP256Spec : ChangeSpec := { name := "fnAddGroupP256", fn := fun _ => fun
  | [d1, d2, d3] => { results := [.lit (.bool true)], args := [d1, d2, d3] }
  | _ => none }
def fnAddGroupP256Row : OpenClaim := { program := "ytgpngihiacachaa", sum := "6845600c1568709104d5e6ca3fd1282faa80420ffe08fb035e626f9348fb914e", func := "loop.example/pub-g03334/laws.FnAddGroupP256", spec := "fnAddGroupP256", inPlace := ["math/bits.Add64", "math/bits.Sub64"], apart := false }
def FnAddGroupP256Said : Prop := fnAddGroupP256Row.holds Try.pinned (OpenSpec.ofChange fnAddGroupP256Spec)

/-- ITS FALSE NEIGHBOUR: 'it returns false'. Refute it at one input. -/
def fnAddGroupP256Wrong : ChangeSpec := { name := "fnAddGroupP256", fn := fun _ => fun
  | [d1, d2, d3] => { results := [.lit (.bool false)], args := [d1, d2, d3] }
  | _ => none }
def FnAddGroupP256WrongFalsely : Prop := fnAddGroupP256Row.holds Try.pinned (OpenSpec.ofChange fnAddGroupP256Wrong)

/-- 'laws.FnWordsBackP256': WHATEVER THE INPUT: true; the input reads as it did. -/
def fnWordsBackP256Spec : ChangeSpec := { name := "fnWordsBackP256", fn := fun _ => fun
  | [d] => { results := [.lit (.bool true)], args := [d] }
  | _ => none }
def fnWordsBackP256Row : OpenClaim := { program := "ytgpngihiacachaa", sum := "6845600c1568709104d5e6ca3fd1282faa80420ffe08fb035e626f9348fb914e", func := "loop.example/pub-g03334/laws.FnWordsBackP256", spec := "fnWordsBackP256", apart := false }
def FnWordsBackP256Said : Prop := fnWordsBackP256Row.holds Try.pinned (OpenSpec.ofChange fnWordsBackP256Spec)

/-- ITS FALSE NEIGHBOUR: 'it returns false'. Refute it at one input. -/
def fnWordsBackP256Wrong : ChangeSpec := { name := "fnWordsBackP256", fn := fun _ => fun
  | [d] => { results := [.lit (.bool false)], args := [d] }
  | _ => none }
def FnWordsBackP256WrongFalsely : Prop := fnWordsBackP256Row.holds Try.pinned (OpenSpec.ofChange fnWordsBackP256Wrong)

/- THE SECOND FORM. 'bulk': how many values and letters a reading holds, each counted each time it is reached (what is shared counts as often as it is met; a slice's spare places count too). A statement '..UptoSaid' is the law's where the arguments, and the package variables that the reading takes, are together of bulk at most 1048576: NARROWER than '..Said'. Prove '..Said' where nothing that the law and all that it calls make is longer than what came in: it says more and counts as full. Else prove '..UptoSaid'. A law counts once. -/
mutual
def uptoBulk {H : Type} : DataW H → Nat
  | .lit (.string bytes) => bytes.length + 1
  | .lit _ => 1
  | .nil => 1
  | .ptr d => uptoBulk d + 1
  | .slice elems spare => uptoBulkAll elems + uptoBulkAll spare + 1
  | .agg parts => uptoBulkAll parts + 1
  | .iface _ d => uptoBulk d + 1
  | .map entries => uptoBulkEntries entries + 1
  | .held _ => 1
def uptoBulkAll {H : Type} : List (DataW H) → Nat
  | [] => 0
  | d :: r => uptoBulk d + uptoBulkAll r
def uptoBulkEntries {H : Type} : List (Lit × DataW H) → Nat
  | [] => 0
  | x :: r => uptoBulkEntry x + uptoBulkEntries r
def uptoBulkEntry {H : Type} : Lit × DataW H → Nat
  | (.string bytes, d) => bytes.length + uptoBulk d + 1
  | (_, d) => uptoBulk d + 1
 end
def uptoSmall : (H : Type) → List (DataW H) → Bool := fun _ ds => decide (uptoBulkAll ds ≤ 1048576)
def OpenSpec.upto (s : _root_.Go.ChangeSpec) : _root_.Go.OpenSpec := { _root_.Go.OpenSpec.ofChange s with cond := some uptoSmall }

/-- 'laws.FnExactMoveP256', WHERE WHAT IT READS IS OF BULK AT MOST 1048576: true; the input reads as it did. -/
def fnExactMoveP256UptoRow : OpenClaim := { program := "ytgpngihiacachaa", sum := "6845600c1568709104d5e6ca3fd1282faa80420ffe08fb035e626f9348fb914e", func := "loop.example/pub-g03334/laws.FnExactMoveP256", spec := "fnExactMoveP256", apart := false, narrowed := true }
def FnExactMoveP256UptoSaid : Prop := fnExactMoveP256UptoRow.holds Try.pinned (OpenSpec.upto fnExactMoveP256Spec)

/-- 'laws.FnExactSubP256', WHERE WHAT IT READS IS OF BULK AT MOST 1048576: true; the input reads as it did. -/
def fnExactSubP256UptoRow : OpenClaim := { program := "ytgpngihiacachaa", sum := "6845600c1568709104d5e6ca3fd1282faa80420ffe08fb035e626f9348fb914e", func := "loop.example/pub-g03334/laws.FnExactSubP256", spec := "fnExactSubP256", inPlace := ["math/bits.Sub64", "math/bits.Add64"], apart := false, narrowed := true }
def FnExactSubP256UptoSaid : Prop := fnExactSubP256UptoRow.holds Try.pinned (OpenSpec.upto fnExactSubP256Spec)

/-- 'laws.FnExactWordsP256', WHERE WHAT IT READS IS OF BULK AT MOST 1048576: true; the input reads as it did. -/
def fnExactWordsP256UptoRow : OpenClaim := { program := "ytgpngihiacachaa", sum := "6845600c1568709104d5e6ca3fd1282faa80420ffe08fb035e626f9348fb914e", func := "loop.example/pub-g03334/laws.FnExactWordsP256", spec := "fnExactWordsP256", apart := false, narrowed := true }
def FnExactWordsP256UptoSaid : Prop := fnExactWordsP256UptoRow.holds Try.pinned (OpenSpec.upto fnExactWordsP256Spec)

/-- 'laws.FnAddGroupP256', WHERE WHAT IT READS IS OF BULK AT MOST 1048576: true; the input reads as it did. -/
def fnAddGroupP256UptoRow : OpenClaim := { program := "ytgpngihiacachaa", sum := "6845600c1568709104d5e6ca3fd1282faa80420ffe08fb035e626f9348fb914e", func := "loop.example/pub-g03334/laws.FnAddGroupP256", spec := "fnAddGroupP256", inPlace := ["math/bits.Add64", "math/bits.Sub64"], apart := false, narrowed := true }
def FnAddGroupP256UptoSaid : Prop := fnAddGroupP256UptoRow.holds Try.pinned (OpenSpec.upto fnAddGroupP256Spec)

/-- 'laws.FnWordsBackP256', WHERE WHAT IT READS IS OF BULK AT MOST 1048576: true; the input reads as it did. -/
def fnWordsBackP256UptoRow : OpenClaim := { program := "ytgpngihiacachaa", sum := "6845600c1568709104d5e6ca3fd1282faa80420ffe08fb035e626f9348fb914e", func := "loop.example/pub-g03334/laws.FnWordsBackP256", spec := "fnWordsBackP256", apart := false, narrowed := true }
def FnWordsBackP256UptoSaid : Prop := fnWordsBackP256UptoRow.holds Try.pinned (OpenSpec.upto fnWordsBackP256Spec)

end Rows
end Go.Proofs.Ytgpngihiacachaa
