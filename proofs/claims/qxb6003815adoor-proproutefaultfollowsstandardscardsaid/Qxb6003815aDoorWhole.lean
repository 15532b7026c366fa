/-
  The whole of the route's fault, and of the model: both answer 'faultOf'.
-/
import Derived.Test.Qxb6003815aDoorModel3
import Derived.Test.Qxb6003815aDoorFault2
import Derived.Test.Qxb6003815aDoorAddr3
namespace Go.Proofs.Qxb6003815aDoor
open Go.ChangeShapes Go.WideShapes Go.ChangeAt Go.RowKit
set_option linter.unusedVariables false

theorem rf_wrap (Br Ba : Nat) (v : Int) (w : World) (h : Calls Tryd.prog 10 #[.pointer (some ⟨Br, 0, none⟩), .pointer (some ⟨Ba, 0, none⟩)] w fun e w' => e = .returned (.int .u8 v) ∧ Below w.heap.size w w') :
    Calls Tryd.prog 7 #[.pointer (some ⟨Br, 0, none⟩), .pointer (some ⟨Ba, 0, none⟩)] w fun e w' => e = .returned (.int .u8 v) ∧ Below w.heap.size w w' := by
  have H : Hid (Calls Tryd.prog 10 #[.pointer (some ⟨Br, 0, none⟩), .pointer (some ⟨Ba, 0, none⟩)] w fun e w' => e = .returned (.int .u8 v) ∧ Below w.heap.size w w') := h
  clear h
  go_enter Tryd.func7, Tryd.ntmps7
  go_wp2_with fail
  refine H.out.mono ?_
  rintro e w1 ⟨rfl, hb⟩
  go_wp2
  go_ret
  exact ⟨rfl, hb⟩

theorem rf_all (Br Ba n cap : Nat) (ad : Option Addr) (zs : List Int) (a4 a6 : Addr) (typ e0 e1 e2 e3 e4 e5 e6 e7 e8 e9 tag hi lo : Int) (gp : Option Addr) (label : Int) (u : Bool) (w : World) (hR : Rt Br typ e0 e1 e2 e3 e4 e5 e6 e7 e8 e9 tag hi lo gp label w)
    (hn : n ≤ 65536) (hA : Attr Ba ad n cap zs w) (hG : Glob a4 a6 w) (hbd : ∀ i j, 0 ≤ cB zs i j ∧ cB zs i j ≤ 255)
    (hU : typ = 5 → ∀ V, Glob a4 a6 V → Calls Tryd.prog 12 #[.agg #[.int .u64 hi, .int .u64 lo, .pointer gp]] V fun e V' => e = .returned (.bool u) ∧ Below V.heap.size V V') :
    Calls Tryd.prog 7 #[.pointer (some ⟨Br, 0, none⟩), .pointer (some ⟨Ba, 0, none⟩)] w fun e w' => e = .returned (.int .u8 (faultOf typ tag label e0 (zeroB [e0, e1, e2, e3, e4, e5, e6, e7, e8, e9]) u zs n)) ∧ Below w.heap.size w w' := by
  apply rf_wrap
  unfold faultOf
  by_cases h5 : 5 < e0
  · rw [if_pos h5]
    exact fault_esi Br Ba typ e0 e1 e2 e3 e4 e5 e6 e7 e8 e9 tag hi lo gp label w hR h5
  · rw [if_neg h5]
    by_cases ht : typ = 5
    · subst ht
      rw [if_pos rfl]
      exact fault_pfx Br Ba n cap ad zs a4 a6 e0 e1 e2 e3 e4 e5 e6 e7 e8 e9 tag hi lo gp label u w hR (by omega) hn hA hG (hU rfl)
    · rw [if_neg ht]
      by_cases h1 : typ = 1 ∧ tag = 4294967295
      · rw [if_pos h1]
        obtain ⟨rfl, rfl⟩ := h1
        exact fault_ad Br Ba n cap ad zs a4 a6 e0 e1 e2 e3 e4 e5 e6 e7 e8 e9 hi lo gp label w hR (by omega) hn hA hG hbd
      · rw [if_neg h1]
        exact fault_other Br Ba typ e0 e1 e2 e3 e4 e5 e6 e7 e8 e9 tag hi lo gp label w hR (by omega) ht h1

theorem mo_all (typ e0 e1 e2 e3 e4 e5 e6 e7 e8 e9 tag label gl g0 g1 g2 g3 g4 g5 g6 g7 g8 g9 g10 g11 g12 g13 g14 g15 : Int) (ad : Option Addr) (n cap : Nat) (zs : List Int) (u : Bool) (w : World) (hn : n ≤ 65536) (hC : Com ad n zs w) (hbd : ∀ i j, 0 ≤ cB zs i j ∧ cB zs i j ≤ 255)
    (hgl : typ = 5 → (gl = 4 ∧ u = zeroB ([g0, g1, g2, g3, g4, g5, g6, g7, g8, g9, g10, g11, g12, g13, g14, g15].take 4)) ∨ (gl = 16 ∧ u = zeroB ([g0, g1, g2, g3, g4, g5, g6, g7, g8, g9, g10, g11, g12, g13, g14, g15].take 16))) :
    Calls Tryd.prog 8 #[.int .u8 typ, .agg #[.int .u8 e0, .int .u8 e1, .int .u8 e2, .int .u8 e3, .int .u8 e4, .int .u8 e5, .int .u8 e6, .int .u8 e7, .int .u8 e8, .int .u8 e9], .int .u32 tag, .int .u32 label, .int .u8 gl, .agg #[.int .u8 g0, .int .u8 g1, .int .u8 g2, .int .u8 g3, .int .u8 g4, .int .u8 g5, .int .u8 g6, .int .u8 g7, .int .u8 g8, .int .u8 g9, .int .u8 g10, .int .u8 g11, .int .u8 g12, .int .u8 g13, .int .u8 g14, .int .u8 g15], .slice ad n cap] w fun e w' => e = .returned (.int .u8 (faultOf typ tag label e0 (zeroB [e0, e1, e2, e3, e4, e5, e6, e7, e8, e9]) u zs n)) ∧ Below w.heap.size w w' := by
  unfold faultOf
  by_cases h5 : 5 < e0
  · rw [if_pos h5]
    exact model_esi typ e0 e1 e2 e3 e4 e5 e6 e7 e8 e9 tag label gl g0 g1 g2 g3 g4 g5 g6 g7 g8 g9 g10 g11 g12 g13 g14 g15 ad n cap w h5
  · rw [if_neg h5]
    by_cases ht : typ = 5
    · subst ht
      rw [if_pos rfl]
      rcases hgl rfl with ⟨rfl, rfl⟩ | ⟨rfl, rfl⟩
      · exact model_pfx4 e0 e1 e2 e3 e4 e5 e6 e7 e8 e9 tag label g0 g1 g2 g3 g4 g5 g6 g7 g8 g9 g10 g11 g12 g13 g14 g15 ad n cap zs w (by omega) hn hC
      · exact model_pfx16 e0 e1 e2 e3 e4 e5 e6 e7 e8 e9 tag label g0 g1 g2 g3 g4 g5 g6 g7 g8 g9 g10 g11 g12 g13 g14 g15 ad n cap zs w (by omega) hn hC
    · rw [if_neg ht]
      by_cases h1 : typ = 1 ∧ tag = 4294967295
      · rw [if_pos h1]
        obtain ⟨rfl, rfl⟩ := h1
        exact model_ad e0 e1 e2 e3 e4 e5 e6 e7 e8 e9 label gl g0 g1 g2 g3 g4 g5 g6 g7 g8 g9 g10 g11 g12 g13 g14 g15 ad n cap zs w (by omega) hn hC hbd
      · rw [if_neg h1]
        exact model_other typ e0 e1 e2 e3 e4 e5 e6 e7 e8 e9 tag label gl g0 g1 g2 g3 g4 g5 g6 g7 g8 g9 g10 g11 g12 g13 g14 g15 ad n cap w (by omega) ht h1

/-- An IPv4 gateway: 'IsUnspecified' says whether its four octets are zero. -/
theorem unsp4_all (g0 g1 g2 g3 : Int) (h0 : 0 ≤ g0 ∧ g0 ≤ 255) (h1 : 0 ≤ g1 ∧ g1 ≤ 255) (h2 : 0 ≤ g2 ∧ g2 ≤ 255) (h3 : 0 ≤ g3 ∧ g3 ≤ 255) (a4 a6 : Addr) (V : World) (hG : Glob a4 a6 V) :
    Calls Tryd.prog 12 #[.agg #[.int .u64 0, .int .u64 (lo4 g0 g1 g2 g3), .pointer (some a4)]] V fun e V' => e = .returned (.bool (zeroB [g0, g1, g2, g3])) ∧ Below V.heap.size V V' := by
  by_cases h : g0 = 0 ∧ g1 = 0 ∧ g2 = 0 ∧ g3 = 0
  · obtain ⟨rfl, rfl, rfl, rfl⟩ := h
    exact isUnsp4_yes a4 a6 V hG
  · have e : zeroB [g0, g1, g2, g3] = false := by
      simp only [zeroB, List.all_cons, List.all_nil, Bool.and_true]
      rw [Bool.and_eq_false_iff, Bool.and_eq_false_iff, Bool.and_eq_false_iff]
      simp only [beq_eq_false_iff_ne, ne_eq]
      omega
    rw [e]
    exact isUnsp4_no (lo4 g0 g1 g2 g3) a4 a6 V hG (by unfold lo4; omega)

/-- An IPv6 gateway. -/
theorem unsp6_all (g0 g1 g2 g3 g4 g5 g6 g7 g8 g9 g10 g11 g12 g13 g14 g15 : Int) (h0 : 0 ≤ g0 ∧ g0 ≤ 255) (h1 : 0 ≤ g1 ∧ g1 ≤ 255) (h2 : 0 ≤ g2 ∧ g2 ≤ 255) (h3 : 0 ≤ g3 ∧ g3 ≤ 255) (h4 : 0 ≤ g4 ∧ g4 ≤ 255) (h5 : 0 ≤ g5 ∧ g5 ≤ 255) (h6 : 0 ≤ g6 ∧ g6 ≤ 255) (h7 : 0 ≤ g7 ∧ g7 ≤ 255) (h8 : 0 ≤ g8 ∧ g8 ≤ 255) (h9 : 0 ≤ g9 ∧ g9 ≤ 255) (h10 : 0 ≤ g10 ∧ g10 ≤ 255) (h11 : 0 ≤ g11 ∧ g11 ≤ 255) (h12 : 0 ≤ g12 ∧ g12 ≤ 255) (h13 : 0 ≤ g13 ∧ g13 ≤ 255) (h14 : 0 ≤ g14 ∧ g14 ≤ 255) (h15 : 0 ≤ g15 ∧ g15 ≤ 255) (a4 a6 : Addr) (V : World) (hG : Glob a4 a6 V) :
    Calls Tryd.prog 12 #[.agg #[.int .u64 (be8 g0 g1 g2 g3 g4 g5 g6 g7), .int .u64 (be8 g8 g9 g10 g11 g12 g13 g14 g15), .pointer (some a6)]] V fun e V' => e = .returned (.bool (zeroB [g0, g1, g2, g3, g4, g5, g6, g7, g8, g9, g10, g11, g12, g13, g14, g15])) ∧ Below V.heap.size V V' := by
  by_cases h : be8 g0 g1 g2 g3 g4 g5 g6 g7 = 0 ∧ be8 g8 g9 g10 g11 g12 g13 g14 g15 = 0
  · have ez : zeroB [g0, g1, g2, g3, g4, g5, g6, g7, g8, g9, g10, g11, g12, g13, g14, g15] = true := by
      unfold be8 at h
      simp only [zeroB, List.all_cons, List.all_nil, Bool.and_true, Bool.and_eq_true, beq_iff_eq]
      omega
    rw [ez, h.1, h.2]
    exact isUnsp6_yes a4 a6 V hG
  · have ez : zeroB [g0, g1, g2, g3, g4, g5, g6, g7, g8, g9, g10, g11, g12, g13, g14, g15] = false := by
      cases hz : zeroB [g0, g1, g2, g3, g4, g5, g6, g7, g8, g9, g10, g11, g12, g13, g14, g15] with
      | false => rfl
      | true =>
        exfalso
        apply h
        simp only [zeroB, List.all_cons, List.all_nil, Bool.and_true, Bool.and_eq_true, beq_iff_eq] at hz
        unfold be8
        omega
    rw [ez]
    by_cases hm : be8 g0 g1 g2 g3 g4 g5 g6 g7 = 0 ∧ be8 g8 g9 g10 g11 g12 g13 g14 g15 = 281470681743360
    · rw [hm.1, hm.2]
      exact isUnsp6_mapped a4 a6 V hG
    · exact isUnsp6_no _ _ a4 a6 V hG hm h

end Go.Proofs.Qxb6003815aDoor
