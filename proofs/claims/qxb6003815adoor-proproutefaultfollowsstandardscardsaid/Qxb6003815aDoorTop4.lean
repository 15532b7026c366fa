/-
  The law's walk: no gateway, no communities.
-/
import Derived.Test.Qxb6003815aDoorTop3
namespace Go.Proofs.Qxb6003815aDoor
open Go.ChangeShapes Go.WideShapes Go.ChangeAt Go.RowKit
set_option linter.unusedVariables false

set_option maxRecDepth 100000 in
set_option maxHeartbeats 3200000 in
theorem top_a1_nil (typ d0 d1 d2 d3 d4 d5 d6 d7 e0 e1 e2 e3 e4 e5 e6 e7 e8 e9 tag m0 m1 m2 m3 m4 m5 label label2 : Int) (hl : Bool) (g0 g1 g2 g3 g4 g5 g6 g7 g8 g9 g10 g11 g12 g13 g14 g15 : Int) (cap : Nat) (w : World) (a4 a6 : Addr) (zs : List Int) (h2 : label < 16777216) (h3 : label2 < 16777216) (hG : Glob a4 a6 w) (hbd : ∀ i j, 0 ≤ cB zs i j ∧ cB zs i j ≤ 255)
    (t : typ = 1) :
    Calls Tryd.prog 3 #[.int .u8 typ, .agg #[.int .u8 d0, .int .u8 d1, .int .u8 d2, .int .u8 d3, .int .u8 d4, .int .u8 d5, .int .u8 d6, .int .u8 d7], .agg #[.int .u8 e0, .int .u8 e1, .int .u8 e2, .int .u8 e3, .int .u8 e4, .int .u8 e5, .int .u8 e6, .int .u8 e7, .int .u8 e8, .int .u8 e9], .int .u32 tag, .agg #[.int .u8 m0, .int .u8 m1, .int .u8 m2, .int .u8 m3, .int .u8 m4, .int .u8 m5], .int .u32 label, .int .u32 label2, .bool hl, .int .u8 0, .agg #[.int .u8 g0, .int .u8 g1, .int .u8 g2, .int .u8 g3, .int .u8 g4, .int .u8 g5, .int .u8 g6, .int .u8 g7, .int .u8 g8, .int .u8 g9, .int .u8 g10, .int .u8 g11, .int .u8 g12, .int .u8 g13, .int .u8 g14, .int .u8 g15], .slice none 0 cap] w fun e w' => e = .returned (.bool true) ∧ Below w.heap.size w w' := by
  have hC : Com none 0 zs w := fun h => absurd h (Nat.lt_irrefl _)
  have hB := four_boxes w (.cells #[.int .u8 d0, .int .u8 d1, .int .u8 d2, .int .u8 d3, .int .u8 d4, .int .u8 d5, .int .u8 d6, .int .u8 d7] 22) (.cells #[.int .u8 e0, .int .u8 e1, .int .u8 e2, .int .u8 e3, .int .u8 e4, .int .u8 e5, .int .u8 e6, .int .u8 e7, .int .u8 e8, .int .u8 e9] 23) (.cells #[.int .u8 m0, .int .u8 m1, .int .u8 m2, .int .u8 m3, .int .u8 m4, .int .u8 m5] 25) (.cells #[.int .u8 g0, .int .u8 g1, .int .u8 g2, .int .u8 g3, .int .u8 g4, .int .u8 g5, .int .u8 g6, .int .u8 g7, .int .u8 g8, .int .u8 g9, .int .u8 g10, .int .u8 g11, .int .u8 g12, .int .u8 g13, .int .u8 g14, .int .u8 g15] 26)
  have hX := Boxes.new w d0 d1 d2 d3 d4 d5 d6 d7 e0 e1 e2 e3 e4 e5 e6 e7 e8 e9 m0 m1 m2 m3 m4 m5 g0 g1 g2 g3 g4 g5 g6 g7 g8 g9 g10 g11 g12 g13 g14 g15
  obtain ⟨H, hH⟩ : ∃ H, w.heap.size = H := ⟨_, rfl⟩
  rw [hH] at hX hB
  have hK : ((((w.alloc (.cells #[.int .u8 d0, .int .u8 d1, .int .u8 d2, .int .u8 d3, .int .u8 d4, .int .u8 d5, .int .u8 d6, .int .u8 d7] 22)).alloc (.cells #[.int .u8 e0, .int .u8 e1, .int .u8 e2, .int .u8 e3, .int .u8 e4, .int .u8 e5, .int .u8 e6, .int .u8 e7, .int .u8 e8, .int .u8 e9] 23)).alloc (.cells #[.int .u8 m0, .int .u8 m1, .int .u8 m2, .int .u8 m3, .int .u8 m4, .int .u8 m5] 25)).alloc (.cells #[.int .u8 g0, .int .u8 g1, .int .u8 g2, .int .u8 g3, .int .u8 g4, .int .u8 g5, .int .u8 g6, .int .u8 g7, .int .u8 g8, .int .u8 g9, .int .u8 g10, .int .u8 g11, .int .u8 g12, .int .u8 g13, .int .u8 g14, .int .u8 g15] 26)).heap.size = H + 4 := by simp [hH]
  obtain ⟨V, hV⟩ : ∃ V, ((((w.alloc (.cells #[.int .u8 d0, .int .u8 d1, .int .u8 d2, .int .u8 d3, .int .u8 d4, .int .u8 d5, .int .u8 d6, .int .u8 d7] 22)).alloc (.cells #[.int .u8 e0, .int .u8 e1, .int .u8 e2, .int .u8 e3, .int .u8 e4, .int .u8 e5, .int .u8 e6, .int .u8 e7, .int .u8 e8, .int .u8 e9] 23)).alloc (.cells #[.int .u8 m0, .int .u8 m1, .int .u8 m2, .int .u8 m3, .int .u8 m4, .int .u8 m5] 25)).alloc (.cells #[.int .u8 g0, .int .u8 g1, .int .u8 g2, .int .u8 g3, .int .u8 g4, .int .u8 g5, .int .u8 g6, .int .u8 g7, .int .u8 g8, .int .u8 g9, .int .u8 g10, .int .u8 g11, .int .u8 g12, .int .u8 g13, .int .u8 g14, .int .u8 g15] 26)) = V := ⟨_, rfl⟩
  rw [hV] at hB hX hK
  have l2 : decide (16777216 ≤ label) = false := decide_eq_false (by omega)
  have l3 : decide (16777216 ≤ label2) = false := decide_eq_false (by omega)
  have q5 : (typ == 5) = false := by simp [t]
  have q5' : (typ != 5) = true := by simp [t]
  have q1 : (typ != 1) = false := by simp [t]
  have t5 : typ ≠ 5 := by omega
  clear t
  have hnil : ∀ W, (binOp .neq 27 (.slice none 0 cap) (.slice none 0 0)).run Tryd.prog W = .ok (.bool false) W := fun W => run_neq_slice_nil_any W 27 49 none 0 cap 0 0 Tryd.underlying27
  obtain ⟨kd0, kd1, kd2, kd3, kd4, kd5, kd6, kd7, ke0, ke1, ke2, ke3, ke4, ke5, ke6, ke7, ke8, ke9, km0, km1, km2, km3, km4, km5, kg0, kg1, kg2, kg3, kg4, kg5, kg6, kg7, kg8, kg9, kg10, kg11, kg12, kg13, kg14, kg15⟩ := hX.all
  have HRt := Rt.new V (H + 4) hK typ d0 d1 d2 d3 d4 d5 d6 d7 e0 e1 e2 e3 e4 e5 e6 e7 e8 e9 tag m0 m1 m2 m3 m4 m5 label label2 hl
  have hsr := store_route V (H + 4) hK (List.toArray (routeL typ d0 d1 d2 d3 d4 d5 d6 d7 e0 e1 e2 e3 e4 e5 e6 e7 e8 e9 tag m0 m1 m2 m3 m4 m5 label label2 hl)) rfl (routeL_one typ d0 d1 d2 d3 d4 d5 d6 d7 e0 e1 e2 e3 e4 e5 e6 e7 e8 e9 tag m0 m1 m2 m3 m4 m5 label label2 hl)
  obtain ⟨R, hR⟩ : ∃ R, List.toArray ((.int .u8 typ :: .int .u8 d0 :: .int .u8 d1 :: .int .u8 d2 :: .int .u8 d3 :: .int .u8 d4 :: .int .u8 d5 :: .int .u8 d6 :: .int .u8 d7 :: .int .u8 e0 :: .int .u8 e1 :: .int .u8 e2 :: .int .u8 e3 :: .int .u8 e4 :: .int .u8 e5 :: .int .u8 e6 :: .int .u8 e7 :: .int .u8 e8 :: .int .u8 e9 :: .int .u32 tag :: .int .u8 m0 :: .int .u8 m1 :: .int .u8 m2 :: .int .u8 m3 :: .int .u8 m4 :: .int .u8 m5 :: .int .u64 0 :: .int .u64 0 :: .pointer none :: .int .u64 0 :: .int .u64 0 :: .pointer none :: .int .u8 0 :: .int .u64 0 :: .int .u64 0 :: .pointer none :: .int .u32 label :: .int .u32 label2 :: .bool hl :: []) : List Value) = R := ⟨_, rfl⟩
  have hR' : List.toArray (routeL typ d0 d1 d2 d3 d4 d5 d6 d7 e0 e1 e2 e3 e4 e5 e6 e7 e8 e9 tag m0 m1 m2 m3 m4 m5 label label2 hl) = R := hR
  rw [hR'] at HRt hsr
  have hRs : R.size = 39 := by rw [← hR]; rfl
  obtain ⟨V1, hV1⟩ : ∃ V1, V.alloc (.cells R 45) = V1 := ⟨_, rfl⟩
  have hK1 : V1.heap.size = H + 5 := by rw [← hV1]; simp [hK]
  have hVV : Below (H + 4) V V1 := by rw [← hV1]; exact (Below.refl _ _).alloc (by omega) _
  rw [hV1] at HRt
  have HX1 : Hid (Boxes H d0 d1 d2 d3 d4 d5 d6 d7 e0 e1 e2 e3 e4 e5 e6 e7 e8 e9 m0 m1 m2 m3 m4 m5 g0 g1 g2 g3 g4 g5 g6 g7 g8 g9 g10 g11 g12 g13 g14 g15 V1) := hX.below hVV (by omega)
  have HB1 : Hid (Below H w V1) := hB.trans (hVV.mono (by omega))
  have HG1 : Hid (Glob a4 a6 V1) := hG.below HB1.out (by omega)
  have HC1 : Hid (Com none 0 zs V1) := hC.below HB1.out (by omega)
  have HRT : Hid (Rt (H + 4) typ e0 e1 e2 e3 e4 e5 e6 e7 e8 e9 tag 0 0 none label V1) := HRt
  clear HRt hR'
  clear hG hC hB hX hVV
  go_enter Tryd.func3, Tryd.ntmps3
  go_wp2_with fail
  refine (call_seven H (H + 4) (H + 5) typ d0 d1 d2 d3 d4 d5 d6 d7 e0 e1 e2 e3 e4 e5 e6 e7 e8 e9 tag m0 m1 m2 m3 m4 m5 g0 g1 g2 g3 g4 g5 g6 g7 g8 g9 g10 g11 g12 g13 g14 g15 0 label 0 0 none none none 0 cap 0 zs false a4 a6 w V1 hK1 (by omega) HX1.out HRT.out HG1.out HB1.out HC1.out HC1.out (by omega) hbd (fun h => absurd h t5) (fun h => absurd h t5)).mono ?_
  rintro e w2 ⟨got, rfl, h15, hX2, h8⟩
  have H8 := hid_of h8
  clear kd0 kd1 kd2 kd3 kd4 kd5 kd6 kd7 ke0 ke1 ke2 ke3 ke4 ke5 ke6 ke7 ke8 ke9 km0 km1 km2 km3 km4 km5 kg0 kg1 kg2 kg3 kg4 kg5 kg6 kg7 kg8 kg9 kg10 kg11 kg12 kg13 kg14 kg15 hV hV1 hK hK1 hR hRs hsr HX1 HB1 HG1 HC1 HRT hbd h8
  obtain ⟨kd0, kd1, kd2, kd3, kd4, kd5, kd6, kd7, ke0, ke1, ke2, ke3, ke4, ke5, ke6, ke7, ke8, ke9, km0, km1, km2, km3, km4, km5, kg0, kg1, kg2, kg3, kg4, kg5, kg6, kg7, kg8, kg9, kg10, kg11, kg12, kg13, kg14, kg15⟩ := hX2.all
  by_cases h5 : 5 < e0
  · have g15 : (got == 15) = true := by simp [h15.2 h5]
    have d5 : decide (5 < e0) = true := decide_eq_true h5
    clear h15
    go_wp2_with fail
    refine H8.out.mono ?_
    rintro e w3 ⟨rfl, hb3, k0⟩
    go_wp2
    go_ret
    exact ⟨rfl, by rw [hH]; exact hb3⟩
  · have g15 : (got == 15) = false := by simp [mt h15.1 h5]
    have d5 : decide (5 < e0) = false := decide_eq_false h5
    clear h15
    go_wp2_with fail
    refine H8.out.mono ?_
    rintro e w3 ⟨rfl, hb3, k0⟩
    go_wp2
    go_ret
    exact ⟨rfl, by rw [hH]; exact hb3⟩

set_option maxRecDepth 100000 in
set_option maxHeartbeats 3200000 in
theorem top_a2_nil (typ d0 d1 d2 d3 d4 d5 d6 d7 e0 e1 e2 e3 e4 e5 e6 e7 e8 e9 tag m0 m1 m2 m3 m4 m5 label label2 : Int) (hl : Bool) (g0 g1 g2 g3 g4 g5 g6 g7 g8 g9 g10 g11 g12 g13 g14 g15 : Int) (cap : Nat) (w : World) (a4 a6 : Addr) (zs : List Int) (h2 : label < 16777216) (h3 : label2 < 16777216) (hG : Glob a4 a6 w) (hbd : ∀ i j, 0 ≤ cB zs i j ∧ cB zs i j ≤ 255)
    (t : typ = 2) :
    Calls Tryd.prog 3 #[.int .u8 typ, .agg #[.int .u8 d0, .int .u8 d1, .int .u8 d2, .int .u8 d3, .int .u8 d4, .int .u8 d5, .int .u8 d6, .int .u8 d7], .agg #[.int .u8 e0, .int .u8 e1, .int .u8 e2, .int .u8 e3, .int .u8 e4, .int .u8 e5, .int .u8 e6, .int .u8 e7, .int .u8 e8, .int .u8 e9], .int .u32 tag, .agg #[.int .u8 m0, .int .u8 m1, .int .u8 m2, .int .u8 m3, .int .u8 m4, .int .u8 m5], .int .u32 label, .int .u32 label2, .bool hl, .int .u8 0, .agg #[.int .u8 g0, .int .u8 g1, .int .u8 g2, .int .u8 g3, .int .u8 g4, .int .u8 g5, .int .u8 g6, .int .u8 g7, .int .u8 g8, .int .u8 g9, .int .u8 g10, .int .u8 g11, .int .u8 g12, .int .u8 g13, .int .u8 g14, .int .u8 g15], .slice none 0 cap] w fun e w' => e = .returned (.bool true) ∧ Below w.heap.size w w' := by
  have hC : Com none 0 zs w := fun h => absurd h (Nat.lt_irrefl _)
  have hB := four_boxes w (.cells #[.int .u8 d0, .int .u8 d1, .int .u8 d2, .int .u8 d3, .int .u8 d4, .int .u8 d5, .int .u8 d6, .int .u8 d7] 22) (.cells #[.int .u8 e0, .int .u8 e1, .int .u8 e2, .int .u8 e3, .int .u8 e4, .int .u8 e5, .int .u8 e6, .int .u8 e7, .int .u8 e8, .int .u8 e9] 23) (.cells #[.int .u8 m0, .int .u8 m1, .int .u8 m2, .int .u8 m3, .int .u8 m4, .int .u8 m5] 25) (.cells #[.int .u8 g0, .int .u8 g1, .int .u8 g2, .int .u8 g3, .int .u8 g4, .int .u8 g5, .int .u8 g6, .int .u8 g7, .int .u8 g8, .int .u8 g9, .int .u8 g10, .int .u8 g11, .int .u8 g12, .int .u8 g13, .int .u8 g14, .int .u8 g15] 26)
  have hX := Boxes.new w d0 d1 d2 d3 d4 d5 d6 d7 e0 e1 e2 e3 e4 e5 e6 e7 e8 e9 m0 m1 m2 m3 m4 m5 g0 g1 g2 g3 g4 g5 g6 g7 g8 g9 g10 g11 g12 g13 g14 g15
  obtain ⟨H, hH⟩ : ∃ H, w.heap.size = H := ⟨_, rfl⟩
  rw [hH] at hX hB
  have hK : ((((w.alloc (.cells #[.int .u8 d0, .int .u8 d1, .int .u8 d2, .int .u8 d3, .int .u8 d4, .int .u8 d5, .int .u8 d6, .int .u8 d7] 22)).alloc (.cells #[.int .u8 e0, .int .u8 e1, .int .u8 e2, .int .u8 e3, .int .u8 e4, .int .u8 e5, .int .u8 e6, .int .u8 e7, .int .u8 e8, .int .u8 e9] 23)).alloc (.cells #[.int .u8 m0, .int .u8 m1, .int .u8 m2, .int .u8 m3, .int .u8 m4, .int .u8 m5] 25)).alloc (.cells #[.int .u8 g0, .int .u8 g1, .int .u8 g2, .int .u8 g3, .int .u8 g4, .int .u8 g5, .int .u8 g6, .int .u8 g7, .int .u8 g8, .int .u8 g9, .int .u8 g10, .int .u8 g11, .int .u8 g12, .int .u8 g13, .int .u8 g14, .int .u8 g15] 26)).heap.size = H + 4 := by simp [hH]
  obtain ⟨V, hV⟩ : ∃ V, ((((w.alloc (.cells #[.int .u8 d0, .int .u8 d1, .int .u8 d2, .int .u8 d3, .int .u8 d4, .int .u8 d5, .int .u8 d6, .int .u8 d7] 22)).alloc (.cells #[.int .u8 e0, .int .u8 e1, .int .u8 e2, .int .u8 e3, .int .u8 e4, .int .u8 e5, .int .u8 e6, .int .u8 e7, .int .u8 e8, .int .u8 e9] 23)).alloc (.cells #[.int .u8 m0, .int .u8 m1, .int .u8 m2, .int .u8 m3, .int .u8 m4, .int .u8 m5] 25)).alloc (.cells #[.int .u8 g0, .int .u8 g1, .int .u8 g2, .int .u8 g3, .int .u8 g4, .int .u8 g5, .int .u8 g6, .int .u8 g7, .int .u8 g8, .int .u8 g9, .int .u8 g10, .int .u8 g11, .int .u8 g12, .int .u8 g13, .int .u8 g14, .int .u8 g15] 26)) = V := ⟨_, rfl⟩
  rw [hV] at hB hX hK
  have l2 : decide (16777216 ≤ label) = false := decide_eq_false (by omega)
  have l3 : decide (16777216 ≤ label2) = false := decide_eq_false (by omega)
  have q5 : (typ == 5) = false := by simp [t]
  have q5' : (typ != 5) = true := by simp [t]
  have q1 : (typ != 1) = true := by simp [t]
  have q2 : (typ != 2) = false := by simp [t]
  have t5 : typ ≠ 5 := by omega
  clear t
  have hnil : ∀ W, (binOp .neq 27 (.slice none 0 cap) (.slice none 0 0)).run Tryd.prog W = .ok (.bool false) W := fun W => run_neq_slice_nil_any W 27 49 none 0 cap 0 0 Tryd.underlying27
  obtain ⟨kd0, kd1, kd2, kd3, kd4, kd5, kd6, kd7, ke0, ke1, ke2, ke3, ke4, ke5, ke6, ke7, ke8, ke9, km0, km1, km2, km3, km4, km5, kg0, kg1, kg2, kg3, kg4, kg5, kg6, kg7, kg8, kg9, kg10, kg11, kg12, kg13, kg14, kg15⟩ := hX.all
  have HRt := Rt.new V (H + 4) hK typ d0 d1 d2 d3 d4 d5 d6 d7 e0 e1 e2 e3 e4 e5 e6 e7 e8 e9 tag m0 m1 m2 m3 m4 m5 label label2 hl
  have hsr := store_route V (H + 4) hK (List.toArray (routeL typ d0 d1 d2 d3 d4 d5 d6 d7 e0 e1 e2 e3 e4 e5 e6 e7 e8 e9 tag m0 m1 m2 m3 m4 m5 label label2 hl)) rfl (routeL_one typ d0 d1 d2 d3 d4 d5 d6 d7 e0 e1 e2 e3 e4 e5 e6 e7 e8 e9 tag m0 m1 m2 m3 m4 m5 label label2 hl)
  obtain ⟨R, hR⟩ : ∃ R, List.toArray ((.int .u8 typ :: .int .u8 d0 :: .int .u8 d1 :: .int .u8 d2 :: .int .u8 d3 :: .int .u8 d4 :: .int .u8 d5 :: .int .u8 d6 :: .int .u8 d7 :: .int .u8 e0 :: .int .u8 e1 :: .int .u8 e2 :: .int .u8 e3 :: .int .u8 e4 :: .int .u8 e5 :: .int .u8 e6 :: .int .u8 e7 :: .int .u8 e8 :: .int .u8 e9 :: .int .u32 tag :: .int .u8 m0 :: .int .u8 m1 :: .int .u8 m2 :: .int .u8 m3 :: .int .u8 m4 :: .int .u8 m5 :: .int .u64 0 :: .int .u64 0 :: .pointer none :: .int .u64 0 :: .int .u64 0 :: .pointer none :: .int .u8 0 :: .int .u64 0 :: .int .u64 0 :: .pointer none :: .int .u32 label :: .int .u32 label2 :: .bool hl :: []) : List Value) = R := ⟨_, rfl⟩
  have hR' : List.toArray (routeL typ d0 d1 d2 d3 d4 d5 d6 d7 e0 e1 e2 e3 e4 e5 e6 e7 e8 e9 tag m0 m1 m2 m3 m4 m5 label label2 hl) = R := hR
  rw [hR'] at HRt hsr
  have hRs : R.size = 39 := by rw [← hR]; rfl
  obtain ⟨V1, hV1⟩ : ∃ V1, V.alloc (.cells R 45) = V1 := ⟨_, rfl⟩
  have hK1 : V1.heap.size = H + 5 := by rw [← hV1]; simp [hK]
  have hVV : Below (H + 4) V V1 := by rw [← hV1]; exact (Below.refl _ _).alloc (by omega) _
  rw [hV1] at HRt
  have HX1 : Hid (Boxes H d0 d1 d2 d3 d4 d5 d6 d7 e0 e1 e2 e3 e4 e5 e6 e7 e8 e9 m0 m1 m2 m3 m4 m5 g0 g1 g2 g3 g4 g5 g6 g7 g8 g9 g10 g11 g12 g13 g14 g15 V1) := hX.below hVV (by omega)
  have HB1 : Hid (Below H w V1) := hB.trans (hVV.mono (by omega))
  have HG1 : Hid (Glob a4 a6 V1) := hG.below HB1.out (by omega)
  have HC1 : Hid (Com none 0 zs V1) := hC.below HB1.out (by omega)
  have HRT : Hid (Rt (H + 4) typ e0 e1 e2 e3 e4 e5 e6 e7 e8 e9 tag 0 0 none label V1) := HRt
  clear HRt hR'
  clear hG hC hB hX hVV
  go_enter Tryd.func3, Tryd.ntmps3
  go_wp2_with fail
  refine (call_seven H (H + 4) (H + 5) typ d0 d1 d2 d3 d4 d5 d6 d7 e0 e1 e2 e3 e4 e5 e6 e7 e8 e9 tag m0 m1 m2 m3 m4 m5 g0 g1 g2 g3 g4 g5 g6 g7 g8 g9 g10 g11 g12 g13 g14 g15 0 label 0 0 none none none 0 cap 0 zs false a4 a6 w V1 hK1 (by omega) HX1.out HRT.out HG1.out HB1.out HC1.out HC1.out (by omega) hbd (fun h => absurd h t5) (fun h => absurd h t5)).mono ?_
  rintro e w2 ⟨got, rfl, h15, hX2, h8⟩
  have H8 := hid_of h8
  clear kd0 kd1 kd2 kd3 kd4 kd5 kd6 kd7 ke0 ke1 ke2 ke3 ke4 ke5 ke6 ke7 ke8 ke9 km0 km1 km2 km3 km4 km5 kg0 kg1 kg2 kg3 kg4 kg5 kg6 kg7 kg8 kg9 kg10 kg11 kg12 kg13 kg14 kg15 hV hV1 hK hK1 hR hRs hsr HX1 HB1 HG1 HC1 HRT hbd h8
  obtain ⟨kd0, kd1, kd2, kd3, kd4, kd5, kd6, kd7, ke0, ke1, ke2, ke3, ke4, ke5, ke6, ke7, ke8, ke9, km0, km1, km2, km3, km4, km5, kg0, kg1, kg2, kg3, kg4, kg5, kg6, kg7, kg8, kg9, kg10, kg11, kg12, kg13, kg14, kg15⟩ := hX2.all
  by_cases h5 : 5 < e0
  · have g15 : (got == 15) = true := by simp [h15.2 h5]
    have d5 : decide (5 < e0) = true := decide_eq_true h5
    clear h15
    go_wp2_with fail
    refine H8.out.mono ?_
    rintro e w3 ⟨rfl, hb3, k0⟩
    go_wp2
    go_ret
    exact ⟨rfl, by rw [hH]; exact hb3⟩
  · have g15 : (got == 15) = false := by simp [mt h15.1 h5]
    have d5 : decide (5 < e0) = false := decide_eq_false h5
    clear h15
    go_wp2_with fail
    refine H8.out.mono ?_
    rintro e w3 ⟨rfl, hb3, k0⟩
    go_wp2
    go_ret
    exact ⟨rfl, by rw [hH]; exact hb3⟩

set_option maxRecDepth 100000 in
set_option maxHeartbeats 3200000 in
theorem top_a4_nil (typ d0 d1 d2 d3 d4 d5 d6 d7 e0 e1 e2 e3 e4 e5 e6 e7 e8 e9 tag m0 m1 m2 m3 m4 m5 label label2 : Int) (hl : Bool) (g0 g1 g2 g3 g4 g5 g6 g7 g8 g9 g10 g11 g12 g13 g14 g15 : Int) (cap : Nat) (w : World) (a4 a6 : Addr) (zs : List Int) (h2 : label < 16777216) (h3 : label2 < 16777216) (hG : Glob a4 a6 w) (hbd : ∀ i j, 0 ≤ cB zs i j ∧ cB zs i j ≤ 255)
    (t : typ = 4) :
    Calls Tryd.prog 3 #[.int .u8 typ, .agg #[.int .u8 d0, .int .u8 d1, .int .u8 d2, .int .u8 d3, .int .u8 d4, .int .u8 d5, .int .u8 d6, .int .u8 d7], .agg #[.int .u8 e0, .int .u8 e1, .int .u8 e2, .int .u8 e3, .int .u8 e4, .int .u8 e5, .int .u8 e6, .int .u8 e7, .int .u8 e8, .int .u8 e9], .int .u32 tag, .agg #[.int .u8 m0, .int .u8 m1, .int .u8 m2, .int .u8 m3, .int .u8 m4, .int .u8 m5], .int .u32 label, .int .u32 label2, .bool hl, .int .u8 0, .agg #[.int .u8 g0, .int .u8 g1, .int .u8 g2, .int .u8 g3, .int .u8 g4, .int .u8 g5, .int .u8 g6, .int .u8 g7, .int .u8 g8, .int .u8 g9, .int .u8 g10, .int .u8 g11, .int .u8 g12, .int .u8 g13, .int .u8 g14, .int .u8 g15], .slice none 0 cap] w fun e w' => e = .returned (.bool true) ∧ Below w.heap.size w w' := by
  have hC : Com none 0 zs w := fun h => absurd h (Nat.lt_irrefl _)
  have hB := four_boxes w (.cells #[.int .u8 d0, .int .u8 d1, .int .u8 d2, .int .u8 d3, .int .u8 d4, .int .u8 d5, .int .u8 d6, .int .u8 d7] 22) (.cells #[.int .u8 e0, .int .u8 e1, .int .u8 e2, .int .u8 e3, .int .u8 e4, .int .u8 e5, .int .u8 e6, .int .u8 e7, .int .u8 e8, .int .u8 e9] 23) (.cells #[.int .u8 m0, .int .u8 m1, .int .u8 m2, .int .u8 m3, .int .u8 m4, .int .u8 m5] 25) (.cells #[.int .u8 g0, .int .u8 g1, .int .u8 g2, .int .u8 g3, .int .u8 g4, .int .u8 g5, .int .u8 g6, .int .u8 g7, .int .u8 g8, .int .u8 g9, .int .u8 g10, .int .u8 g11, .int .u8 g12, .int .u8 g13, .int .u8 g14, .int .u8 g15] 26)
  have hX := Boxes.new w d0 d1 d2 d3 d4 d5 d6 d7 e0 e1 e2 e3 e4 e5 e6 e7 e8 e9 m0 m1 m2 m3 m4 m5 g0 g1 g2 g3 g4 g5 g6 g7 g8 g9 g10 g11 g12 g13 g14 g15
  obtain ⟨H, hH⟩ : ∃ H, w.heap.size = H := ⟨_, rfl⟩
  rw [hH] at hX hB
  have hK : ((((w.alloc (.cells #[.int .u8 d0, .int .u8 d1, .int .u8 d2, .int .u8 d3, .int .u8 d4, .int .u8 d5, .int .u8 d6, .int .u8 d7] 22)).alloc (.cells #[.int .u8 e0, .int .u8 e1, .int .u8 e2, .int .u8 e3, .int .u8 e4, .int .u8 e5, .int .u8 e6, .int .u8 e7, .int .u8 e8, .int .u8 e9] 23)).alloc (.cells #[.int .u8 m0, .int .u8 m1, .int .u8 m2, .int .u8 m3, .int .u8 m4, .int .u8 m5] 25)).alloc (.cells #[.int .u8 g0, .int .u8 g1, .int .u8 g2, .int .u8 g3, .int .u8 g4, .int .u8 g5, .int .u8 g6, .int .u8 g7, .int .u8 g8, .int .u8 g9, .int .u8 g10, .int .u8 g11, .int .u8 g12, .int .u8 g13, .int .u8 g14, .int .u8 g15] 26)).heap.size = H + 4 := by simp [hH]
  obtain ⟨V, hV⟩ : ∃ V, ((((w.alloc (.cells #[.int .u8 d0, .int .u8 d1, .int .u8 d2, .int .u8 d3, .int .u8 d4, .int .u8 d5, .int .u8 d6, .int .u8 d7] 22)).alloc (.cells #[.int .u8 e0, .int .u8 e1, .int .u8 e2, .int .u8 e3, .int .u8 e4, .int .u8 e5, .int .u8 e6, .int .u8 e7, .int .u8 e8, .int .u8 e9] 23)).alloc (.cells #[.int .u8 m0, .int .u8 m1, .int .u8 m2, .int .u8 m3, .int .u8 m4, .int .u8 m5] 25)).alloc (.cells #[.int .u8 g0, .int .u8 g1, .int .u8 g2, .int .u8 g3, .int .u8 g4, .int .u8 g5, .int .u8 g6, .int .u8 g7, .int .u8 g8, .int .u8 g9, .int .u8 g10, .int .u8 g11, .int .u8 g12, .int .u8 g13, .int .u8 g14, .int .u8 g15] 26)) = V := ⟨_, rfl⟩
  rw [hV] at hB hX hK
  have l2 : decide (16777216 ≤ label) = false := decide_eq_false (by omega)
  have l3 : decide (16777216 ≤ label2) = false := decide_eq_false (by omega)
  have q5 : (typ == 5) = false := by simp [t]
  have q5' : (typ != 5) = true := by simp [t]
  have q1 : (typ != 1) = true := by simp [t]
  have q2 : (typ != 2) = true := by simp [t]
  have q4 : (typ != 4) = false := by simp [t]
  have t5 : typ ≠ 5 := by omega
  clear t
  have hnil : ∀ W, (binOp .neq 27 (.slice none 0 cap) (.slice none 0 0)).run Tryd.prog W = .ok (.bool false) W := fun W => run_neq_slice_nil_any W 27 49 none 0 cap 0 0 Tryd.underlying27
  obtain ⟨kd0, kd1, kd2, kd3, kd4, kd5, kd6, kd7, ke0, ke1, ke2, ke3, ke4, ke5, ke6, ke7, ke8, ke9, km0, km1, km2, km3, km4, km5, kg0, kg1, kg2, kg3, kg4, kg5, kg6, kg7, kg8, kg9, kg10, kg11, kg12, kg13, kg14, kg15⟩ := hX.all
  have HRt := Rt.new V (H + 4) hK typ d0 d1 d2 d3 d4 d5 d6 d7 e0 e1 e2 e3 e4 e5 e6 e7 e8 e9 tag m0 m1 m2 m3 m4 m5 label label2 hl
  have hsr := store_route V (H + 4) hK (List.toArray (routeL typ d0 d1 d2 d3 d4 d5 d6 d7 e0 e1 e2 e3 e4 e5 e6 e7 e8 e9 tag m0 m1 m2 m3 m4 m5 label label2 hl)) rfl (routeL_one typ d0 d1 d2 d3 d4 d5 d6 d7 e0 e1 e2 e3 e4 e5 e6 e7 e8 e9 tag m0 m1 m2 m3 m4 m5 label label2 hl)
  obtain ⟨R, hR⟩ : ∃ R, List.toArray ((.int .u8 typ :: .int .u8 d0 :: .int .u8 d1 :: .int .u8 d2 :: .int .u8 d3 :: .int .u8 d4 :: .int .u8 d5 :: .int .u8 d6 :: .int .u8 d7 :: .int .u8 e0 :: .int .u8 e1 :: .int .u8 e2 :: .int .u8 e3 :: .int .u8 e4 :: .int .u8 e5 :: .int .u8 e6 :: .int .u8 e7 :: .int .u8 e8 :: .int .u8 e9 :: .int .u32 tag :: .int .u8 m0 :: .int .u8 m1 :: .int .u8 m2 :: .int .u8 m3 :: .int .u8 m4 :: .int .u8 m5 :: .int .u64 0 :: .int .u64 0 :: .pointer none :: .int .u64 0 :: .int .u64 0 :: .pointer none :: .int .u8 0 :: .int .u64 0 :: .int .u64 0 :: .pointer none :: .int .u32 label :: .int .u32 label2 :: .bool hl :: []) : List Value) = R := ⟨_, rfl⟩
  have hR' : List.toArray (routeL typ d0 d1 d2 d3 d4 d5 d6 d7 e0 e1 e2 e3 e4 e5 e6 e7 e8 e9 tag m0 m1 m2 m3 m4 m5 label label2 hl) = R := hR
  rw [hR'] at HRt hsr
  have hRs : R.size = 39 := by rw [← hR]; rfl
  obtain ⟨V1, hV1⟩ : ∃ V1, V.alloc (.cells R 45) = V1 := ⟨_, rfl⟩
  have hK1 : V1.heap.size = H + 5 := by rw [← hV1]; simp [hK]
  have hVV : Below (H + 4) V V1 := by rw [← hV1]; exact (Below.refl _ _).alloc (by omega) _
  rw [hV1] at HRt
  have HX1 : Hid (Boxes H d0 d1 d2 d3 d4 d5 d6 d7 e0 e1 e2 e3 e4 e5 e6 e7 e8 e9 m0 m1 m2 m3 m4 m5 g0 g1 g2 g3 g4 g5 g6 g7 g8 g9 g10 g11 g12 g13 g14 g15 V1) := hX.below hVV (by omega)
  have HB1 : Hid (Below H w V1) := hB.trans (hVV.mono (by omega))
  have HG1 : Hid (Glob a4 a6 V1) := hG.below HB1.out (by omega)
  have HC1 : Hid (Com none 0 zs V1) := hC.below HB1.out (by omega)
  have HRT : Hid (Rt (H + 4) typ e0 e1 e2 e3 e4 e5 e6 e7 e8 e9 tag 0 0 none label V1) := HRt
  clear HRt hR'
  clear hG hC hB hX hVV
  go_enter Tryd.func3, Tryd.ntmps3
  go_wp2_with fail
  refine (call_seven H (H + 4) (H + 5) typ d0 d1 d2 d3 d4 d5 d6 d7 e0 e1 e2 e3 e4 e5 e6 e7 e8 e9 tag m0 m1 m2 m3 m4 m5 g0 g1 g2 g3 g4 g5 g6 g7 g8 g9 g10 g11 g12 g13 g14 g15 0 label 0 0 none none none 0 cap 0 zs false a4 a6 w V1 hK1 (by omega) HX1.out HRT.out HG1.out HB1.out HC1.out HC1.out (by omega) hbd (fun h => absurd h t5) (fun h => absurd h t5)).mono ?_
  rintro e w2 ⟨got, rfl, h15, hX2, h8⟩
  have H8 := hid_of h8
  clear kd0 kd1 kd2 kd3 kd4 kd5 kd6 kd7 ke0 ke1 ke2 ke3 ke4 ke5 ke6 ke7 ke8 ke9 km0 km1 km2 km3 km4 km5 kg0 kg1 kg2 kg3 kg4 kg5 kg6 kg7 kg8 kg9 kg10 kg11 kg12 kg13 kg14 kg15 hV hV1 hK hK1 hR hRs hsr HX1 HB1 HG1 HC1 HRT hbd h8
  obtain ⟨kd0, kd1, kd2, kd3, kd4, kd5, kd6, kd7, ke0, ke1, ke2, ke3, ke4, ke5, ke6, ke7, ke8, ke9, km0, km1, km2, km3, km4, km5, kg0, kg1, kg2, kg3, kg4, kg5, kg6, kg7, kg8, kg9, kg10, kg11, kg12, kg13, kg14, kg15⟩ := hX2.all
  by_cases h5 : 5 < e0
  · have g15 : (got == 15) = true := by simp [h15.2 h5]
    have d5 : decide (5 < e0) = true := decide_eq_true h5
    clear h15
    go_wp2_with fail
    refine H8.out.mono ?_
    rintro e w3 ⟨rfl, hb3, k0⟩
    go_wp2
    go_ret
    exact ⟨rfl, by rw [hH]; exact hb3⟩
  · have g15 : (got == 15) = false := by simp [mt h15.1 h5]
    have d5 : decide (5 < e0) = false := decide_eq_false h5
    clear h15
    go_wp2_with fail
    refine H8.out.mono ?_
    rintro e w3 ⟨rfl, hb3, k0⟩
    go_wp2
    go_ret
    exact ⟨rfl, by rw [hH]; exact hb3⟩

end Go.Proofs.Qxb6003815aDoor
