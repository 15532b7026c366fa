/-
  The law's walk, whole: whatever the input, true.
-/
import Derived.Test.Qxb6003815aDoorTop4
import Derived.Test.Qxb6003815aDoorTop5
import Derived.Test.Qxb6003815aDoorTop6
import Derived.Test.Qxb6003815aDoorTop7
import Derived.Test.Qxb6003815aDoorTop8
import Derived.Test.Qxb6003815aDoorTop9
import Derived.Test.Qxb6003815aDoorTopB1
import Derived.Test.Qxb6003815aDoorTopB2
import Derived.Test.Qxb6003815aDoorTopC1
import Derived.Test.Qxb6003815aDoorTopC2
namespace Go.Proofs.Qxb6003815aDoor
open Go.ChangeShapes Go.WideShapes Go.ChangeAt Go.RowKit
set_option linter.unusedVariables false

theorem com_none {n : Nat} {zs : List Int} {w : World} (h : Com none n zs w) : n = 0 := by
  rcases Nat.eq_zero_or_pos n with e | e
  · exact e
  · obtain ⟨b, off, e, _⟩ := h e
    exact absurd e (by simp)

set_option maxRecDepth 100000 in
set_option maxHeartbeats 1600000 in
theorem walk_all (typ d0 d1 d2 d3 d4 d5 d6 d7 e0 e1 e2 e3 e4 e5 e6 e7 e8 e9 tag m0 m1 m2 m3 m4 m5 label label2 : Int) (hl : Bool) (gl g0 g1 g2 g3 g4 g5 g6 g7 g8 g9 g10 g11 g12 g13 g14 g15 : Int) (ad : Option Addr) (n cap : Nat) (w : World) (a4 a6 : Addr) (zs : List Int) (hn : n ≤ maxLen) (hG : Glob a4 a6 w) (hbd : ∀ i j, 0 ≤ cB zs i j ∧ cB zs i j ≤ 255)
    (hC : Com ad n zs w) (hg0 : 0 ≤ g0 ∧ g0 ≤ 255) (hg1 : 0 ≤ g1 ∧ g1 ≤ 255) (hg2 : 0 ≤ g2 ∧ g2 ≤ 255) (hg3 : 0 ≤ g3 ∧ g3 ≤ 255) (hg4 : 0 ≤ g4 ∧ g4 ≤ 255) (hg5 : 0 ≤ g5 ∧ g5 ≤ 255) (hg6 : 0 ≤ g6 ∧ g6 ≤ 255) (hg7 : 0 ≤ g7 ∧ g7 ≤ 255) (hg8 : 0 ≤ g8 ∧ g8 ≤ 255) (hg9 : 0 ≤ g9 ∧ g9 ≤ 255) (hg10 : 0 ≤ g10 ∧ g10 ≤ 255) (hg11 : 0 ≤ g11 ∧ g11 ≤ 255) (hg12 : 0 ≤ g12 ∧ g12 ≤ 255) (hg13 : 0 ≤ g13 ∧ g13 ≤ 255) (hg14 : 0 ≤ g14 ∧ g14 ≤ 255) (hg15 : 0 ≤ g15 ∧ g15 ≤ 255) :
    Calls Tryd.prog 3 #[.int .u8 typ, .agg #[.int .u8 d0, .int .u8 d1, .int .u8 d2, .int .u8 d3, .int .u8 d4, .int .u8 d5, .int .u8 d6, .int .u8 d7], .agg #[.int .u8 e0, .int .u8 e1, .int .u8 e2, .int .u8 e3, .int .u8 e4, .int .u8 e5, .int .u8 e6, .int .u8 e7, .int .u8 e8, .int .u8 e9], .int .u32 tag, .agg #[.int .u8 m0, .int .u8 m1, .int .u8 m2, .int .u8 m3, .int .u8 m4, .int .u8 m5], .int .u32 label, .int .u32 label2, .bool hl, .int .u8 gl, .agg #[.int .u8 g0, .int .u8 g1, .int .u8 g2, .int .u8 g3, .int .u8 g4, .int .u8 g5, .int .u8 g6, .int .u8 g7, .int .u8 g8, .int .u8 g9, .int .u8 g10, .int .u8 g11, .int .u8 g12, .int .u8 g13, .int .u8 g14, .int .u8 g15], .slice ad n cap] w fun e w' => e = .returned (.bool true) ∧ Below w.heap.size w w' := by
  by_cases hg : 65536 < n ∨ 16777216 ≤ label ∨ 16777216 ≤ label2
  · exact top_guard1 typ d0 d1 d2 d3 d4 d5 d6 d7 e0 e1 e2 e3 e4 e5 e6 e7 e8 e9 tag m0 m1 m2 m3 m4 m5 label label2 hl gl g0 g1 g2 g3 g4 g5 g6 g7 g8 g9 g10 g11 g12 g13 g14 g15 ad n cap w hn hg
  have h1 : n ≤ 65536 := by omega
  have h2 : label < 16777216 := by omega
  have h3 : label2 < 16777216 := by omega
  by_cases t5 : typ = 5
  · by_cases is4 : gl = 4
    · subst is4
      by_cases hne : ad = none
      · subst hne
        obtain rfl : n = 0 := com_none hC
        exact top_b_nil typ d0 d1 d2 d3 d4 d5 d6 d7 e0 e1 e2 e3 e4 e5 e6 e7 e8 e9 tag m0 m1 m2 m3 m4 m5 label label2 hl g0 g1 g2 g3 g4 g5 g6 g7 g8 g9 g10 g11 g12 g13 g14 g15 cap w a4 a6 zs h2 h3 hG hbd hg0 hg1 hg2 hg3 hg4 hg5 hg6 hg7 hg8 hg9 hg10 hg11 hg12 hg13 hg14 hg15 t5
      · exact top_b_some typ d0 d1 d2 d3 d4 d5 d6 d7 e0 e1 e2 e3 e4 e5 e6 e7 e8 e9 tag m0 m1 m2 m3 m4 m5 label label2 hl g0 g1 g2 g3 g4 g5 g6 g7 g8 g9 g10 g11 g12 g13 g14 g15 ad n cap w a4 a6 zs h1 h2 h3 hG hbd hg0 hg1 hg2 hg3 hg4 hg5 hg6 hg7 hg8 hg9 hg10 hg11 hg12 hg13 hg14 hg15 hne hC t5
    by_cases is16 : gl = 16
    · subst is16
      by_cases hne : ad = none
      · subst hne
        obtain rfl : n = 0 := com_none hC
        exact top_c_nil typ d0 d1 d2 d3 d4 d5 d6 d7 e0 e1 e2 e3 e4 e5 e6 e7 e8 e9 tag m0 m1 m2 m3 m4 m5 label label2 hl g0 g1 g2 g3 g4 g5 g6 g7 g8 g9 g10 g11 g12 g13 g14 g15 cap w a4 a6 zs h2 h3 hG hbd hg0 hg1 hg2 hg3 hg4 hg5 hg6 hg7 hg8 hg9 hg10 hg11 hg12 hg13 hg14 hg15 t5
      · exact top_c_some typ d0 d1 d2 d3 d4 d5 d6 d7 e0 e1 e2 e3 e4 e5 e6 e7 e8 e9 tag m0 m1 m2 m3 m4 m5 label label2 hl g0 g1 g2 g3 g4 g5 g6 g7 g8 g9 g10 g11 g12 g13 g14 g15 ad n cap w a4 a6 zs h1 h2 h3 hG hbd hg0 hg1 hg2 hg3 hg4 hg5 hg6 hg7 hg8 hg9 hg10 hg11 hg12 hg13 hg14 hg15 hne hC t5
    exact top_guard2 typ d0 d1 d2 d3 d4 d5 d6 d7 e0 e1 e2 e3 e4 e5 e6 e7 e8 e9 tag m0 m1 m2 m3 m4 m5 label label2 hl gl g0 g1 g2 g3 g4 g5 g6 g7 g8 g9 g10 g11 g12 g13 g14 g15 ad n cap w h1 h2 h3 (Or.inl ⟨t5, is4, is16⟩)
  by_cases is0 : gl = 0
  · subst is0
    by_cases t1 : typ = 1
    · by_cases hne : ad = none
      · subst hne
        obtain rfl : n = 0 := com_none hC
        exact top_a1_nil typ d0 d1 d2 d3 d4 d5 d6 d7 e0 e1 e2 e3 e4 e5 e6 e7 e8 e9 tag m0 m1 m2 m3 m4 m5 label label2 hl g0 g1 g2 g3 g4 g5 g6 g7 g8 g9 g10 g11 g12 g13 g14 g15 cap w a4 a6 zs h2 h3 hG hbd t1
      · exact top_a1_some typ d0 d1 d2 d3 d4 d5 d6 d7 e0 e1 e2 e3 e4 e5 e6 e7 e8 e9 tag m0 m1 m2 m3 m4 m5 label label2 hl g0 g1 g2 g3 g4 g5 g6 g7 g8 g9 g10 g11 g12 g13 g14 g15 ad n cap w a4 a6 zs h1 h2 h3 hG hbd hne hC t1
    by_cases t2 : typ = 2
    · by_cases hne : ad = none
      · subst hne
        obtain rfl : n = 0 := com_none hC
        exact top_a2_nil typ d0 d1 d2 d3 d4 d5 d6 d7 e0 e1 e2 e3 e4 e5 e6 e7 e8 e9 tag m0 m1 m2 m3 m4 m5 label label2 hl g0 g1 g2 g3 g4 g5 g6 g7 g8 g9 g10 g11 g12 g13 g14 g15 cap w a4 a6 zs h2 h3 hG hbd t2
      · exact top_a2_some typ d0 d1 d2 d3 d4 d5 d6 d7 e0 e1 e2 e3 e4 e5 e6 e7 e8 e9 tag m0 m1 m2 m3 m4 m5 label label2 hl g0 g1 g2 g3 g4 g5 g6 g7 g8 g9 g10 g11 g12 g13 g14 g15 ad n cap w a4 a6 zs h1 h2 h3 hG hbd hne hC t2
    by_cases t4 : typ = 4
    · by_cases hne : ad = none
      · subst hne
        obtain rfl : n = 0 := com_none hC
        exact top_a4_nil typ d0 d1 d2 d3 d4 d5 d6 d7 e0 e1 e2 e3 e4 e5 e6 e7 e8 e9 tag m0 m1 m2 m3 m4 m5 label label2 hl g0 g1 g2 g3 g4 g5 g6 g7 g8 g9 g10 g11 g12 g13 g14 g15 cap w a4 a6 zs h2 h3 hG hbd t4
      · exact top_a4_some typ d0 d1 d2 d3 d4 d5 d6 d7 e0 e1 e2 e3 e4 e5 e6 e7 e8 e9 tag m0 m1 m2 m3 m4 m5 label label2 hl g0 g1 g2 g3 g4 g5 g6 g7 g8 g9 g10 g11 g12 g13 g14 g15 ad n cap w a4 a6 zs h1 h2 h3 hG hbd hne hC t4
    cases hz : zeroB [e0, e1, e2, e3, e4, e5, e6, e7, e8, e9] with
    | false => exact top_guard3 typ d0 d1 d2 d3 d4 d5 d6 d7 e0 e1 e2 e3 e4 e5 e6 e7 e8 e9 tag m0 m1 m2 m3 m4 m5 label label2 hl g0 g1 g2 g3 g4 g5 g6 g7 g8 g9 g10 g11 g12 g13 g14 g15 ad n cap w h1 h2 h3 t1 t2 t4 t5 hz
    | true =>
      by_cases hne : ad = none
      · subst hne
        obtain rfl : n = 0 := com_none hC
        exact top_az_nil typ d0 d1 d2 d3 d4 d5 d6 d7 e0 e1 e2 e3 e4 e5 e6 e7 e8 e9 tag m0 m1 m2 m3 m4 m5 label label2 hl g0 g1 g2 g3 g4 g5 g6 g7 g8 g9 g10 g11 g12 g13 g14 g15 cap w a4 a6 zs h2 h3 hG hbd t1 t2 t4 t5 hz
      · exact top_az_some typ d0 d1 d2 d3 d4 d5 d6 d7 e0 e1 e2 e3 e4 e5 e6 e7 e8 e9 tag m0 m1 m2 m3 m4 m5 label label2 hl g0 g1 g2 g3 g4 g5 g6 g7 g8 g9 g10 g11 g12 g13 g14 g15 ad n cap w a4 a6 zs h1 h2 h3 hG hbd hne hC t1 t2 t4 t5 hz
  · exact top_guard2 typ d0 d1 d2 d3 d4 d5 d6 d7 e0 e1 e2 e3 e4 e5 e6 e7 e8 e9 tag m0 m1 m2 m3 m4 m5 label label2 hl gl g0 g1 g2 g3 g4 g5 g6 g7 g8 g9 g10 g11 g12 g13 g14 g15 ad n cap w h1 h2 h3 (Or.inr ⟨t5, is0⟩)

end Go.Proofs.Qxb6003815aDoor
