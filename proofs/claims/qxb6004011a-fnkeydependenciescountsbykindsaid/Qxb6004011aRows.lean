/-
  No cell of these rows narrows 'for every input' (looked for: loops, veiled, ifaces, maps, wideKeys, modest, calm, conditions, laid).
  DERIVED. THE GIVEN ROWS OF THIS SEAT. 3 by the template 'for every input the law returns true; each argument reads behind the call as it read before'; 0 by the template 'total and deterministic' (their statements: Qxb6004011aTotals.lean).
  GIVEN WITH THE SEED: the statements are not yours to turn. If you find one false, say at which input.
  Laid BY PROGRAM, IN A SANDBOX (cutbox-rows.mjs): the forced cells as the released guide's own fill.sh prints them over the translation 8d5f7316596c579d… (all of the seat's roots in one cut). By AI agents, Wed Nov 11 2026. No macro, syntax, notation, axiom, sorry.
-/
import Derived.Test.Qxb6004011aChecked
import GoSem.Claim
import GoSem.ClaimJoined
import GoSem.ClaimMapViews
import Derived.JoinedTies
import Derived.KernelRfl
namespace Go.Proofs.Qxb6004011a
/- THE CELL 'sum', in the pinned program and in every row, IS THE sha256 OF THE DUMP (.gsa) THAT Qxb6004011aProg.lean LOADS. Nothing in Lean hashes anything: it is a label: what it is worth is what the hold of that sum in a sandbox is worth. -/
noncomputable def Try.pinned : Pinned := { name := "qxb6004011a", sum := "8d5f7316596c579d1b2a30e38ee649ca85b546bd3a55c49e1b9df2215717016d", checked := Try.checked }
namespace Rows
def none {H : Type} : Left H := { results := [], args := [] }

/-- 'zzlaws_pkg_check_b1.FnKeyDependenciesAppendsAfterWhatItIsGiven': WHATEVER THE INPUT: true; the input reads as it did. -/
def fnKeyDependenciesAppendsAfterWhatItIsGivenSpec : ChangeSpec := { name := "fnKeyDependenciesAppendsAfterWhatItIsGiven", fn := fun _ => fun
  | [d1, d2, d3, d4, d5, d6] => { results := [.lit (.bool true)], args := [d1, d2, d3, d4, d5, d6] }
  | _ => none }
def fnKeyDependenciesAppendsAfterWhatItIsGivenRow : OpenClaim := { program := "qxb6004011a", sum := "8d5f7316596c579d1b2a30e38ee649ca85b546bd3a55c49e1b9df2215717016d", func := "example.com/faultline/faultline/zzlaws_pkg_check_b1.FnKeyDependenciesAppendsAfterWhatItIsGiven", spec := "fnKeyDependenciesAppendsAfterWhatItIsGiven", unfollowed := true, recurses := true, apart := false }
def FnKeyDependenciesAppendsAfterWhatItIsGivenSaid : Prop := fnKeyDependenciesAppendsAfterWhatItIsGivenRow.holds Try.pinned (OpenSpec.ofChange fnKeyDependenciesAppendsAfterWhatItIsGivenSpec)

/-- ITS FALSE NEIGHBOUR: 'it returns false'. Refute it at one input. -/
def fnKeyDependenciesAppendsAfterWhatItIsGivenWrong : ChangeSpec := { name := "fnKeyDependenciesAppendsAfterWhatItIsGiven", fn := fun _ => fun
  | [d1, d2, d3, d4, d5, d6] => { results := [.lit (.bool false)], args := [d1, d2, d3, d4, d5, d6] }
  | _ => none }
def FnKeyDependenciesAppendsAfterWhatItIsGivenWrongFalsely : Prop := fnKeyDependenciesAppendsAfterWhatItIsGivenRow.holds Try.pinned (OpenSpec.ofChange fnKeyDependenciesAppendsAfterWhatItIsGivenWrong)

/-- 'zzlaws_pkg_check_b1.FnKeyDependenciesCountsByKind': WHATEVER THE INPUT: true; the input reads as it did. -/
def fnKeyDependenciesCountsByKindSpec : ChangeSpec := { name := "fnKeyDependenciesCountsByKind", fn := fun _ => fun
  | [d1, d2, d3] => { results := [.lit (.bool true)], args := [d1, d2, d3] }
  | _ => none }
def fnKeyDependenciesCountsByKindRow : OpenClaim := { program := "qxb6004011a", sum := "8d5f7316596c579d1b2a30e38ee649ca85b546bd3a55c49e1b9df2215717016d", func := "example.com/faultline/faultline/zzlaws_pkg_check_b1.FnKeyDependenciesCountsByKind", spec := "fnKeyDependenciesCountsByKind", unfollowed := true, recurses := true, apart := false }
def FnKeyDependenciesCountsByKindSaid : Prop := fnKeyDependenciesCountsByKindRow.holds Try.pinned (OpenSpec.ofChange fnKeyDependenciesCountsByKindSpec)

/-- ITS FALSE NEIGHBOUR: 'it returns false'. Refute it at one input. -/
def fnKeyDependenciesCountsByKindWrong : ChangeSpec := { name := "fnKeyDependenciesCountsByKind", fn := fun _ => fun
  | [d1, d2, d3] => { results := [.lit (.bool false)], args := [d1, d2, d3] }
  | _ => none }
def FnKeyDependenciesCountsByKindWrongFalsely : Prop := fnKeyDependenciesCountsByKindRow.holds Try.pinned (OpenSpec.ofChange fnKeyDependenciesCountsByKindWrong)

/-- 'zzlaws_pkg_check_b1.FnKeyDependenciesSerialHistoryPointsForward': WHATEVER THE INPUT: true; the input reads as it did. -/
def fnKeyDependenciesSerialHistoryPointsForwardSpec : ChangeSpec := { name := "fnKeyDependenciesSerialHistoryPointsForward", fn := fun _ => fun
  | [d1, d2, d3] => { results := [.lit (.bool true)], args := [d1, d2, d3] }
  | _ => none }
def fnKeyDependenciesSerialHistoryPointsForwardRow : OpenClaim := { program := "qxb6004011a", sum := "8d5f7316596c579d1b2a30e38ee649ca85b546bd3a55c49e1b9df2215717016d", func := "example.com/faultline/faultline/zzlaws_pkg_check_b1.FnKeyDependenciesSerialHistoryPointsForward", spec := "fnKeyDependenciesSerialHistoryPointsForward", unfollowed := true, recurses := true, apart := false }
def FnKeyDependenciesSerialHistoryPointsForwardSaid : Prop := fnKeyDependenciesSerialHistoryPointsForwardRow.holds Try.pinned (OpenSpec.ofChange fnKeyDependenciesSerialHistoryPointsForwardSpec)

/-- ITS FALSE NEIGHBOUR: 'it returns false'. Refute it at one input. -/
def fnKeyDependenciesSerialHistoryPointsForwardWrong : ChangeSpec := { name := "fnKeyDependenciesSerialHistoryPointsForward", fn := fun _ => fun
  | [d1, d2, d3] => { results := [.lit (.bool false)], args := [d1, d2, d3] }
  | _ => none }
def FnKeyDependenciesSerialHistoryPointsForwardWrongFalsely : Prop := fnKeyDependenciesSerialHistoryPointsForwardRow.holds Try.pinned (OpenSpec.ofChange fnKeyDependenciesSerialHistoryPointsForwardWrong)

end Rows
end Go.Proofs.Qxb6004011a
