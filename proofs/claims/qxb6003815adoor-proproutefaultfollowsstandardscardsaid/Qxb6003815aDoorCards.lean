/-
  DERIVED. GIVEN WITH THE SEED: THE CARDS: each row of Qxb6003815aDoorRows.lean that lists a variable, with what it lists TIED to the program's text (the seventh form; the later family's looks); each row that meets fmt, with fmt's text TOLD by the authors' own Lean function (tested against real Go, not proved from fmt's source: count such statements apart). THE CARD IS WHAT COUNTS. Prove the row's statement (the work); the ties are given (Qxb6003815aDoorTie.lean); close each card by the builder's one call (the guide's Derived/Test/ToyasCard.lean, 'card_holds'). Laid BY PROGRAM, IN A SANDBOX (cutbox-door.mjs). By AI agents, Wed Nov 11 2026. No macro, syntax, notation, axiom, sorry.
-/
import Derived.Test.Qxb6003815aDoorRows
import GoSem.ClaimSeven
namespace Go.Proofs.Qxb6003815aDoor
namespace Rows

/-- THE TIED CARD OF 'zzlaws_wire_c2.PropRouteFaultFollowsStandards'. -/
def propRouteFaultFollowsStandardsCard : Claim7 := { stood := { row := propRouteFaultFollowsStandardsRow, standIns := [], harness := (true, "a479288018a01d7bd38361346466c527c49470f63ff345cd201f184ff3639b41"), looks := false }, kinds := [], alts := [], laidByText := true, laidKinds := [.called, .called, .data], laidTests := true, laidLooks := .later }
def PropRouteFaultFollowsStandardsCardSaid : Prop := Claim7.holds Tryd.pinned (.plain (OpenSpec.ofChange propRouteFaultFollowsStandardsSpec)) propRouteFaultFollowsStandardsCard
end Rows
end Go.Proofs.Qxb6003815aDoor
