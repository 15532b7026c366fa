/-
  The tied card of the law: the row (Qxb6003815aDoorRow.lean), the given tie, the builder's one call.
-/
import Derived.Test.Qxb6003815aDoorRow
import Derived.Test.Qxb6003815aDoorTie
import Derived.Test.Qxb6003815aDoorCards
import Derived.SevenTiedAt
namespace Go.Proofs.Qxb6003815aDoor.propRouteFaultFollowsStandards
open Go

set_option maxRecDepth 100000 in
/-- ████ THE STATEMENT ████ -/
theorem proved : Rows.PropRouteFaultFollowsStandardsCardSaid :=
  Claim7.holds_tied_plain_at .later [] [.called, .called, .data] true (true, "a479288018a01d7bd38361346466c527c49470f63ff345cd201f184ff3639b41") false
    row_holds (fun _ h => by cases h) (by kernel_rfl) (fun _ h => by cases h) propRouteFaultFollowsStandards_row_tie rfl ⟨rfl, rfl⟩ (by kernel_rfl) rfl
    (fun f fn hf hfn => by
      obtain rfl : f = 3 := Option.some.inj ((show Tryd.prog.funcNamed "example.com/weftwire/weftwire/zzlaws_wire_c2.PropRouteFaultFollowsStandards" = some 3 by kernel_rfl).symm.trans hf) |>.symm
      obtain rfl : fn = Tryd.f3 := (Option.some.inj (Tryd.func3.symm.trans hfn)).symm
      exact ⟨by kernel_rfl, fun j t ht => by
        rw [Tryd.params3] at ht
        have hm : t ∈ [5, 22, 23, 24, 25, 24, 24, 4, 5, 26, 27] := by simpa using Array.mem_of_getElem? ht
        have hall : ([5, 22, 23, 24, 25, 24, 24, 4, 5, 26, 27].all fun u => !Tryd.prog.wantsStandIn u) = true := by kernel_rfl
        exact (show Tryd.prog.wantsStandIn t = false by simpa using List.all_eq_true.1 hall t hm)⟩)
    (by kernel_rfl)

end Go.Proofs.Qxb6003815aDoor.propRouteFaultFollowsStandards
