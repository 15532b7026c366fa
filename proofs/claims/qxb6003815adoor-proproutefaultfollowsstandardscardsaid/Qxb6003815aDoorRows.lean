/-
  NARROWER THAN 'FOR EVERY INPUT', by the rows' own cells (each row's printed sentence says how): PropRouteFaultFollowsStandards: laid.
  DERIVED. THE GIVEN ROWS OF THIS SEAT. 1 by the template 'for every input the law returns true; each argument reads behind the call as it read before'; 0 by the template 'total and deterministic' (their statements: Qxb6003815aDoorTotals.lean).
  GIVEN WITH THE SEED: the statements are not yours to turn. If you find one false, say at which input.
  Laid BY PROGRAM, IN A SANDBOX (cutbox-rows.mjs): the forced cells as the released guide's own fill.sh prints them over the translation ab06f8ea242b5623… (all of the seat's roots in one cut). By AI agents, Wed Nov 11 2026. No macro, syntax, notation, axiom, sorry.
-/
import Derived.Test.Qxb6003815aDoorChecked
import GoSem.Claim
import GoSem.ClaimJoined
import GoSem.ClaimMapViews
import Derived.JoinedTies
import Derived.KernelRfl
namespace Go.Proofs.Qxb6003815aDoor
/- THE CELL 'sum', in the pinned program and in every row, IS THE sha256 OF THE DUMP (.gsa) THAT Qxb6003815aDoorProg.lean LOADS. Nothing in Lean hashes anything: it is a label: what it is worth is what the hold of that sum in a sandbox is worth. -/
noncomputable def Tryd.pinned : Pinned := { name := "qxb6003815adoor", sum := "ab06f8ea242b56234644b4d64e3b149fabd6ec84affe10e6f0d0f4ef9c19baa8", checked := Tryd.checked }
namespace Rows
def none {H : Type} : Left H := { results := [], args := [] }

/- WHAT THE LISTED PACKAGE-LEVEL VARIABLES READ AS WHEN THE CALL BEGINS. Each datum BY PROGRAM (the guide's laid-datum.mjs) off the statement by which the dump's own 'gosem.cut.vars' lays the variable. In a bare row this is a premise. The card (Qxb6003815aDoorCards.lean) ties it to the program's text. -/
def laid_net_netip_z4 {H : Type} : DataW H := .agg [.ptr (.agg [.lit (.bool false), .lit (.string [])])]
def laid_net_netip_z6noz {H : Type} : DataW H := .agg [.ptr (.agg [.lit (.bool true), .lit (.string [])])]
def laid_example_com_weftwire_weftwire_wire_evpnKinds {H : Type} : DataW H := .agg [.lit (.int .u8 4), .lit (.int .u8 5), .lit (.int .u8 6), .lit (.int .u8 7), .lit (.int .u8 8)]

/-- 'zzlaws_wire_c2.PropRouteFaultFollowsStandards': WHATEVER THE INPUT: true; the input reads as it did. -/
def propRouteFaultFollowsStandardsSpec : ChangeSpec := { name := "propRouteFaultFollowsStandards", vars := ["example.com/weftwire/weftwire/wire.evpnKinds"], fn := fun _ => fun
  | [d1, d2, d3, d4, d5, d6, d7, d8, d9, d10, d11, g1] => { results := [.lit (.bool true)], args := [d1, d2, d3, d4, d5, d6, d7, d8, d9, d10, d11], vars := [g1] }
  | _ => none }
def propRouteFaultFollowsStandardsRow : OpenClaim := { program := "qxb6003815adoor", sum := "ab06f8ea242b56234644b4d64e3b149fabd6ec84affe10e6f0d0f4ef9c19baa8", func := "example.com/weftwire/weftwire/zzlaws_wire_c2.PropRouteFaultFollowsStandards", spec := "propRouteFaultFollowsStandards", unfollowed := true, recurses := true, named := ["net/netip.z4", "net/netip.z6noz", "example.com/weftwire/weftwire/wire.evpnKinds", "encoding/binary.BigEndian"], apart := false, laid := [("net/netip.z4", laid_net_netip_z4), ("net/netip.z6noz", laid_net_netip_z6noz), ("example.com/weftwire/weftwire/wire.evpnKinds", laid_example_com_weftwire_weftwire_wire_evpnKinds)] }
def PropRouteFaultFollowsStandardsSaid : Prop := propRouteFaultFollowsStandardsRow.holds Tryd.pinned (OpenSpec.ofChange propRouteFaultFollowsStandardsSpec)

/-- ITS FALSE NEIGHBOUR: 'it returns false'. Refute it at one input. -/
def propRouteFaultFollowsStandardsWrong : ChangeSpec := { name := "propRouteFaultFollowsStandards", vars := ["example.com/weftwire/weftwire/wire.evpnKinds"], fn := fun _ => fun
  | [d1, d2, d3, d4, d5, d6, d7, d8, d9, d10, d11, g1] => { results := [.lit (.bool false)], args := [d1, d2, d3, d4, d5, d6, d7, d8, d9, d10, d11], vars := [g1] }
  | _ => none }
def PropRouteFaultFollowsStandardsWrongFalsely : Prop := propRouteFaultFollowsStandardsRow.holds Tryd.pinned (OpenSpec.ofChange propRouteFaultFollowsStandardsWrong)

end Rows
end Go.Proofs.Qxb6003815aDoor
