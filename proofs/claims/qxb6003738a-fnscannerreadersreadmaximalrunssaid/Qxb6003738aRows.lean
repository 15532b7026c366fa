/-
  No cell of these rows narrows 'for every input' (looked for: loops, veiled, ifaces, maps, wideKeys, modest, calm, conditions, laid).
  DERIVED. THE GIVEN ROWS OF THIS SEAT. 4 by the template 'for every input the law returns true; each argument reads behind the call as it read before'; 0 by the template 'total and deterministic' (their statements: Qxb6003738aTotals.lean).
  GIVEN WITH THE SEED: the statements are not yours to turn. If you find one false, say at which input.
  Laid BY PROGRAM, IN A SANDBOX (cutbox-rows.mjs): the forced cells as the released guide's own fill.sh prints them over the translation 69b6b31d96da5d6d… (all of the seat's roots in one cut). By AI agents, Wed Nov 11 2026. No macro, syntax, notation, axiom, sorry.
-/
import Derived.Test.Qxb6003738aChecked
import GoSem.Claim
import GoSem.ClaimJoined
import GoSem.ClaimMapViews
import Derived.JoinedTies
import Derived.KernelRfl
namespace Go.Proofs.Qxb6003738a
/- THE CELL 'sum', in the pinned program and in every row, IS THE sha256 OF THE DUMP (.gsa) THAT Qxb6003738aProg.lean LOADS. Nothing in Lean hashes anything: it is a label: what it is worth is what the hold of that sum in a sandbox is worth. -/
noncomputable def Try.pinned : Pinned := { name := "qxb6003738a", sum := "69b6b31d96da5d6d6a2933b99fbe8092d00fc07a90b7d483ee78a97d3ba01241", checked := Try.checked }
namespace Rows
def none {H : Type} : Left H := { results := [], args := [] }

/-- 'zzlaws_internal_syntax_g1.FnScannerReadersReadMaximalRuns': WHATEVER THE INPUT: true; the input reads as it did. -/
def fnScannerReadersReadMaximalRunsSpec : ChangeSpec := { name := "fnScannerReadersReadMaximalRuns", fn := fun _ => fun
  | [d1, d2, d3] => { results := [.lit (.bool true)], args := [d1, d2, d3] }
  | _ => none }
def fnScannerReadersReadMaximalRunsRow : OpenClaim := { program := "qxb6003738a", sum := "69b6b31d96da5d6d6a2933b99fbe8092d00fc07a90b7d483ee78a97d3ba01241", func := "example.com/dialecta/dialecta/zzlaws_internal_syntax_g1.FnScannerReadersReadMaximalRuns", spec := "fnScannerReadersReadMaximalRuns", apart := false }
def FnScannerReadersReadMaximalRunsSaid : Prop := fnScannerReadersReadMaximalRunsRow.holds Try.pinned (OpenSpec.ofChange fnScannerReadersReadMaximalRunsSpec)

/-- ITS FALSE NEIGHBOUR: 'it returns false'. Refute it at one input. -/
def fnScannerReadersReadMaximalRunsWrong : ChangeSpec := { name := "fnScannerReadersReadMaximalRuns", fn := fun _ => fun
  | [d1, d2, d3] => { results := [.lit (.bool false)], args := [d1, d2, d3] }
  | _ => none }
def FnScannerReadersReadMaximalRunsWrongFalsely : Prop := fnScannerReadersReadMaximalRunsRow.holds Try.pinned (OpenSpec.ofChange fnScannerReadersReadMaximalRunsWrong)

/-- 'zzlaws_internal_syntax_g1.FnNameIsWordsDigitsAndDollars': WHATEVER THE INPUT: true; the input reads as it did. -/
def fnNameIsWordsDigitsAndDollarsSpec : ChangeSpec := { name := "fnNameIsWordsDigitsAndDollars", fn := fun _ => fun
  | [d1, d2] => { results := [.lit (.bool true)], args := [d1, d2] }
  | _ => none }
def fnNameIsWordsDigitsAndDollarsRow : OpenClaim := { program := "qxb6003738a", sum := "69b6b31d96da5d6d6a2933b99fbe8092d00fc07a90b7d483ee78a97d3ba01241", func := "example.com/dialecta/dialecta/zzlaws_internal_syntax_g1.FnNameIsWordsDigitsAndDollars", spec := "fnNameIsWordsDigitsAndDollars", apart := false }
def FnNameIsWordsDigitsAndDollarsSaid : Prop := fnNameIsWordsDigitsAndDollarsRow.holds Try.pinned (OpenSpec.ofChange fnNameIsWordsDigitsAndDollarsSpec)

/-- ITS FALSE NEIGHBOUR: 'it returns false'. Refute it at one input. -/
def fnNameIsWordsDigitsAndDollarsWrong : ChangeSpec := { name := "fnNameIsWordsDigitsAndDollars", fn := fun _ => fun
  | [d1, d2] => { results := [.lit (.bool false)], args := [d1, d2] }
  | _ => none }
def FnNameIsWordsDigitsAndDollarsWrongFalsely : Prop := fnNameIsWordsDigitsAndDollarsRow.holds Try.pinned (OpenSpec.ofChange fnNameIsWordsDigitsAndDollarsWrong)

/-- 'zzlaws_internal_syntax_g1.FnReadersSeeOnlyTheirRun': WHATEVER THE INPUT: true; the input reads as it did. -/
def fnReadersSeeOnlyTheirRunSpec : ChangeSpec := { name := "fnReadersSeeOnlyTheirRun", fn := fun _ => fun
  | [d1, d2, d3, d4, d5] => { results := [.lit (.bool true)], args := [d1, d2, d3, d4, d5] }
  | _ => none }
def fnReadersSeeOnlyTheirRunRow : OpenClaim := { program := "qxb6003738a", sum := "69b6b31d96da5d6d6a2933b99fbe8092d00fc07a90b7d483ee78a97d3ba01241", func := "example.com/dialecta/dialecta/zzlaws_internal_syntax_g1.FnReadersSeeOnlyTheirRun", spec := "fnReadersSeeOnlyTheirRun", apart := false }
def FnReadersSeeOnlyTheirRunSaid : Prop := fnReadersSeeOnlyTheirRunRow.holds Try.pinned (OpenSpec.ofChange fnReadersSeeOnlyTheirRunSpec)

/-- ITS FALSE NEIGHBOUR: 'it returns false'. Refute it at one input. -/
def fnReadersSeeOnlyTheirRunWrong : ChangeSpec := { name := "fnReadersSeeOnlyTheirRun", fn := fun _ => fun
  | [d1, d2, d3, d4, d5] => { results := [.lit (.bool false)], args := [d1, d2, d3, d4, d5] }
  | _ => none }
def FnReadersSeeOnlyTheirRunWrongFalsely : Prop := fnReadersSeeOnlyTheirRunRow.holds Try.pinned (OpenSpec.ofChange fnReadersSeeOnlyTheirRunWrong)

/-- 'zzlaws_internal_syntax_g1.FnReadersReadNothingTwice': WHATEVER THE INPUT: true; the input reads as it did. -/
def fnReadersReadNothingTwiceSpec : ChangeSpec := { name := "fnReadersReadNothingTwice", fn := fun _ => fun
  | [d1, d2, d3] => { results := [.lit (.bool true)], args := [d1, d2, d3] }
  | _ => none }
def fnReadersReadNothingTwiceRow : OpenClaim := { program := "qxb6003738a", sum := "69b6b31d96da5d6d6a2933b99fbe8092d00fc07a90b7d483ee78a97d3ba01241", func := "example.com/dialecta/dialecta/zzlaws_internal_syntax_g1.FnReadersReadNothingTwice", spec := "fnReadersReadNothingTwice", apart := false }
def FnReadersReadNothingTwiceSaid : Prop := fnReadersReadNothingTwiceRow.holds Try.pinned (OpenSpec.ofChange fnReadersReadNothingTwiceSpec)

/-- ITS FALSE NEIGHBOUR: 'it returns false'. Refute it at one input. -/
def fnReadersReadNothingTwiceWrong : ChangeSpec := { name := "fnReadersReadNothingTwice", fn := fun _ => fun
  | [d1, d2, d3] => { results := [.lit (.bool false)], args := [d1, d2, d3] }
  | _ => none }
def FnReadersReadNothingTwiceWrongFalsely : Prop := fnReadersReadNothingTwiceRow.holds Try.pinned (OpenSpec.ofChange fnReadersReadNothingTwiceWrong)

end Rows
end Go.Proofs.Qxb6003738a
