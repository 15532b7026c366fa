/-
  'zzRouteFaultModel': what the standards' model returns: the plain ways.
-/
import Derived.Test.Qxb6003815aDoorPlain
namespace Go.Proofs.Qxb6003815aDoor
open Go.ChangeShapes Go.WideShapes Go.ChangeAt Go.RowKit
set_option linter.unusedVariables false

set_option maxRecDepth 100000 in
set_option maxHeartbeats 1600000 in
theorem model_esi (typ e0 e1 e2 e3 e4 e5 e6 e7 e8 e9 tag label gl g0 g1 g2 g3 g4 g5 g6 g7 g8 g9 g10 g11 g12 g13 g14 g15 : Int) (ad : Option Addr) (n cap : Nat) (w : World) (h5 : 5 < e0) :
    Calls Tryd.prog 8 #[.int .u8 typ, .agg #[.int .u8 e0, .int .u8 e1, .int .u8 e2, .int .u8 e3, .int .u8 e4, .int .u8 e5, .int .u8 e6, .int .u8 e7, .int .u8 e8, .int .u8 e9], .int .u32 tag, .int .u32 label, .int .u8 gl, .agg #[.int .u8 g0, .int .u8 g1, .int .u8 g2, .int .u8 g3, .int .u8 g4, .int .u8 g5, .int .u8 g6, .int .u8 g7, .int .u8 g8, .int .u8 g9, .int .u8 g10, .int .u8 g11, .int .u8 g12, .int .u8 g13, .int .u8 g14, .int .u8 g15], .slice ad n cap] w fun e w' => e = .returned (.int .u8 15) ∧ Below w.heap.size w w' := by
  go_enter Tryd.func8, Tryd.ntmps8
  go_wp2
  go_ret
  exact ⟨rfl, ((Below.refl _ _).alloc (Nat.le_refl _) _).alloc (by simp) _⟩

set_option maxRecDepth 100000 in
set_option maxHeartbeats 1600000 in
theorem model_other (typ e0 e1 e2 e3 e4 e5 e6 e7 e8 e9 tag label gl g0 g1 g2 g3 g4 g5 g6 g7 g8 g9 g10 g11 g12 g13 g14 g15 : Int) (ad : Option Addr) (n cap : Nat) (w : World) (h5 : e0 ≤ 5) (ht5 : typ ≠ 5) (ht1 : ¬ (typ = 1 ∧ tag = 4294967295)) :
    Calls Tryd.prog 8 #[.int .u8 typ, .agg #[.int .u8 e0, .int .u8 e1, .int .u8 e2, .int .u8 e3, .int .u8 e4, .int .u8 e5, .int .u8 e6, .int .u8 e7, .int .u8 e8, .int .u8 e9], .int .u32 tag, .int .u32 label, .int .u8 gl, .agg #[.int .u8 g0, .int .u8 g1, .int .u8 g2, .int .u8 g3, .int .u8 g4, .int .u8 g5, .int .u8 g6, .int .u8 g7, .int .u8 g8, .int .u8 g9, .int .u8 g10, .int .u8 g11, .int .u8 g12, .int .u8 g13, .int .u8 g14, .int .u8 g15], .slice ad n cap] w fun e w' => e = .returned (.int .u8 0) ∧ Below w.heap.size w w' := by
  have hB0 : Below w.heap.size w ((w.alloc (.cells #[.int .u8 e0, .int .u8 e1, .int .u8 e2, .int .u8 e3, .int .u8 e4, .int .u8 e5, .int .u8 e6, .int .u8 e7, .int .u8 e8, .int .u8 e9] 23)).alloc (.cells #[.int .u8 g0, .int .u8 g1, .int .u8 g2, .int .u8 g3, .int .u8 g4, .int .u8 g5, .int .u8 g6, .int .u8 g7, .int .u8 g8, .int .u8 g9, .int .u8 g10, .int .u8 g11, .int .u8 g12, .int .u8 g13, .int .u8 g14, .int .u8 g15] 26)) := ((Below.refl _ _).alloc (Nat.le_refl _) _).alloc (by simp) _
  have q5 : (typ == 5) = false := by simp [ht5]
  by_cases h1 : typ = 1
  · have hm : tag ≠ 4294967295 := fun e => ht1 ⟨h1, e⟩
    have q1 : (typ == 1) = true := by simp [h1]
    have q2 : (tag == 4294967295) = false := by simp [hm]
    clear ht1 h1 hm ht5
    go_enter Tryd.func8, Tryd.ntmps8
    go_wp2_with fail
    refine (zeroESI_any e0 e1 e2 e3 e4 e5 e6 e7 e8 e9 _).mono ?_
    rintro e w1 ⟨rfl, hb⟩
    have hbw : Below w.heap.size w w1 := hB0.trans (hb.mono (by simp; omega))
    clear hb hB0
    go_wp2
    go_ret
    exact ⟨rfl, hbw⟩
  · have q1 : (typ == 1) = false := by simp [h1]
    clear ht1 h1 ht5
    go_enter Tryd.func8, Tryd.ntmps8
    go_wp2_with fail
    refine (zeroESI_any e0 e1 e2 e3 e4 e5 e6 e7 e8 e9 _).mono ?_
    rintro e w1 ⟨rfl, hb⟩
    have hbw : Below w.heap.size w w1 := hB0.trans (hb.mono (by simp; omega))
    clear hb hB0
    go_wp2
    go_ret
    exact ⟨rfl, hbw⟩

end Go.Proofs.Qxb6003815aDoor
