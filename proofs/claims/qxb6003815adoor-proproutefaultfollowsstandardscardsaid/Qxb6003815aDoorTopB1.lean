/-
  The law's walk: an IPv4 gateway.
-/
import Derived.Test.Qxb6003815aDoorTop3
namespace Go.Proofs.Qxb6003815aDoor
open Go.ChangeShapes Go.WideShapes Go.ChangeAt Go.RowKit
set_option linter.unusedVariables false

set_option maxRecDepth 100000 in
set_option maxHeartbeats 3200000 in
theorem top_b_nil (typ d0 d1 d2 d3 d4 d5 d6 d7 e0 e1 e2 e3 e4 e5 e6 e7 e8 e9 tag m0 m1 m2 m3 m4 m5 label label2 : Int) (hl : Bool) (g0 g1 g2 g3 g4 g5 g6 g7 g8 g9 g10 g11 g12 g13 g14 g15 : Int) (cap : Nat) (w : World) (a4 a6 : Addr) (zs : List Int) (h2 : label < 16777216) (h3 : label2 < 16777216) (hG : Glob a4 a6 w) (hbd : ∀ i j, 0 ≤ cB zs i j ∧ cB zs i j ≤ 255)
    (hg0 : 0 ≤ g0 ∧ g0 ≤ 255) (hg1 : 0 ≤ g1 ∧ g1 ≤ 255) (hg2 : 0 ≤ g2 ∧ g2 ≤ 255) (hg3 : 0 ≤ g3 ∧ g3 ≤ 255) (hg4 : 0 ≤ g4 ∧ g4 ≤ 255) (hg5 : 0 ≤ g5 ∧ g5 ≤ 255) (hg6 : 0 ≤ g6 ∧ g6 ≤ 255) (hg7 : 0 ≤ g7 ∧ g7 ≤ 255) (hg8 : 0 ≤ g8 ∧ g8 ≤ 255) (hg9 : 0 ≤ g9 ∧ g9 ≤ 255) (hg10 : 0 ≤ g10 ∧ g10 ≤ 255) (hg11 : 0 ≤ g11 ∧ g11 ≤ 255) (hg12 : 0 ≤ g12 ∧ g12 ≤ 255) (hg13 : 0 ≤ g13 ∧ g13 ≤ 255) (hg14 : 0 ≤ g14 ∧ g14 ≤ 255) (hg15 : 0 ≤ g15 ∧ g15 ≤ 255) (t : typ = 5) :
    Calls Tryd.prog 3 #[.int .u8 typ, .agg #[.int .u8 d0, .int .u8 d1, .int .u8 d2, .int .u8 d3, .int .u8 d4, .int .u8 d5, .int .u8 d6, .int .u8 d7], .agg #[.int .u8 e0, .int .u8 e1, .int .u8 e2, .int .u8 e3, .int .u8 e4, .int .u8 e5, .int .u8 e6, .int .u8 e7, .int .u8 e8, .int .u8 e9], .int .u32 tag, .agg #[.int .u8 m0, .int .u8 m1, .int .u8 m2, .int .u8 m3, .int .u8 m4, .int .u8 m5], .int .u32 label, .int .u32 label2, .bool hl, .int .u8 4, .agg #[.int .u8 g0, .int .u8 g1, .int .u8 g2, .int .u8 g3, .int .u8 g4, .int .u8 g5, .int .u8 g6, .int .u8 g7, .int .u8 g8, .int .u8 g9, .int .u8 g10, .int .u8 g11, .int .u8 g12, .int .u8 g13, .int .u8 g14, .int .u8 g15], .slice none 0 cap] w fun e w' => e = .returned (.bool true) ∧ Below w.heap.size w w' := by
  have hC : Com none 0 zs w := fun h => absurd h (Nat.lt_irrefl _)
  have hB := four_boxes w (.cells #[.int .u8 d0, .int .u8 d1, .int .u8 d2, .int .u8 d3, .int .u8 d4, .int .u8 d5, .int .u8 d6, .int .u8 d7] 22) (.cells #[.int .u8 e0, .int .u8 e1, .int .u8 e2, .int .u8 e3, .int .u8 e4, .int .u8 e5, .int .u8 e6, .int .u8 e7, .int .u8 e8, .int .u8 e9] 23) (.cells #[.int .u8 m0, .int .u8 m1, .int .u8 m2, .int .u8 m3, .int .u8 m4, .int .u8 m5] 25) (.cells #[.int .u8 g0, .int .u8 g1, .int .u8 g2, .int .u8 g3, .int .u8 g4, .int .u8 g5, .int .u8 g6, .int .u8 g7, .int .u8 g8, .int .u8 g9, .int .u8 g10, .int .u8 g11, .int .u8 g12, .int .u8 g13, .int .u8 g14, .int .u8 g15] 26)
  have hX := Boxes.new w d0 d1 d2 d3 d4 d5 d6 d7 e0 e1 e2 e3 e4 e5 e6 e7 e8 e9 m0 m1 m2 m3 m4 m5 g0 g1 g2 g3 g4 g5 g6 g7 g8 g9 g10 g11 g12 g13 g14 g15
  obtain ⟨H, hH⟩ : ∃ H, w.heap.size = H := ⟨_, rfl⟩
  rw [hH] at hX hB
  have hK : ((((w.alloc (.cells #[.int .u8 d0, .int .u8 d1, .int .u8 d2, .int .u8 d3, .int .u8 d4, .int .u8 d5, .int .u8 d6, .int .u8 d7] 22)).alloc (.cells #[.int .u8 e0, .int .u8 e1, .int .u8 e2, .int .u8 e3, .int .u8 e4, .int .u8 e5, .int .u8 e6, .int .u8 e7, .int .u8 e8, .int .u8 e9] 23)).alloc (.cells #[.int .u8 m0, .int .u8 m1, .int .u8 m2, .int .u8 m3, .int .u8 m4, .int .u8 m5] 25)).alloc (.cells #[.int .u8 g0, .int .u8 g1, .int .u8 g2, .int .u8 g3, .int .u8 g4, .int .u8 g5, .int .u8 g6, .int .u8 g7, .int .u8 g8, .int .u8 g9, .int .u8 g10, .int .u8 g11, .int .u8 g12, .int .u8 g13, .int .u8 g14, .int .u8 g15] 26)).heap.size = H + 4 := by simp [hH]
  obtain ⟨V, hV⟩ : ∃ V, ((((w.alloc (.cells #[.int .u8 d0, .int .u8 d1, .int .u8 d2, .int .u8 d3, .int .u8 d4, .int .u8 d5, .int .u8 d6, .int .u8 d7] 22)).alloc (.cells #[.int .u8 e0, .int .u8 e1, .int .u8 e2, .int .u8 e3, .int .u8 e4, .int .u8 e5, .int .u8 e6, .int .u8 e7, .int .u8 e8, .int .u8 e9] 23)).alloc (.cells #[.int .u8 m0, .int .u8 m1, .int .u8 m2, .int .u8 m3, .int .u8 m4, .int .u8 m5] 25)).alloc (.cells #[.int .u8 g0, .int .u8 g1, .int .u8 g2, .int .u8 g3, .int .u8 g4, .int .u8 g5, .int .u8 g6, .int .u8 g7, .int .u8 g8, .int .u8 g9, .int .u8 g10, .int .u8 g11, .int .u8 g12, .int .u8 g13, .int .u8 g14, .int .u8 g15] 26)) = V := ⟨_, rfl⟩
  rw [hV] at hB hX hK
  have l2 : decide (16777216 ≤ label) = false := decide_eq_false (by omega)
  have l3 : decide (16777216 ≤ label2) = false := decide_eq_false (by omega)
  have q5 : (typ == 5) = true := by simp [t]
  have q5' : (typ != 5) = false := by simp [t]
  have q1 : (typ != 1) = true := by simp [t]
  have q2 : (typ != 2) = true := by simp [t]
  have q4 : (typ != 4) = true := by simp [t]
  clear t
  have hnil : ∀ W, (binOp .neq 27 (.slice none 0 cap) (.slice none 0 0)).run Tryd.prog W = .ok (.bool false) W := fun W => run_neq_slice_nil_any W 27 49 none 0 cap 0 0 Tryd.underlying27
  have HGW := hid_of hG
  have HCW := hid_of hC
  obtain ⟨kd0, kd1, kd2, kd3, kd4, kd5, kd6, kd7, ke0, ke1, ke2, ke3, ke4, ke5, ke6, ke7, ke8, ke9, km0, km1, km2, km3, km4, km5, kg0, kg1, kg2, kg3, kg4, kg5, kg6, kg7, kg8, kg9, kg10, kg11, kg12, kg13, kg14, kg15⟩ := hX.all
  have HRt := Rt.new V (H + 4) hK typ d0 d1 d2 d3 d4 d5 d6 d7 e0 e1 e2 e3 e4 e5 e6 e7 e8 e9 tag m0 m1 m2 m3 m4 m5 label label2 hl
  have hsr := store_route V (H + 4) hK (List.toArray (routeL typ d0 d1 d2 d3 d4 d5 d6 d7 e0 e1 e2 e3 e4 e5 e6 e7 e8 e9 tag m0 m1 m2 m3 m4 m5 label label2 hl)) rfl (routeL_one typ d0 d1 d2 d3 d4 d5 d6 d7 e0 e1 e2 e3 e4 e5 e6 e7 e8 e9 tag m0 m1 m2 m3 m4 m5 label label2 hl)
  obtain ⟨R, hR⟩ : ∃ R, List.toArray ((.int .u8 typ :: .int .u8 d0 :: .int .u8 d1 :: .int .u8 d2 :: .int .u8 d3 :: .int .u8 d4 :: .int .u8 d5 :: .int .u8 d6 :: .int .u8 d7 :: .int .u8 e0 :: .int .u8 e1 :: .int .u8 e2 :: .int .u8 e3 :: .int .u8 e4 :: .int .u8 e5 :: .int .u8 e6 :: .int .u8 e7 :: .int .u8 e8 :: .int .u8 e9 :: .int .u32 tag :: .int .u8 m0 :: .int .u8 m1 :: .int .u8 m2 :: .int .u8 m3 :: .int .u8 m4 :: .int .u8 m5 :: .int .u64 0 :: .int .u64 0 :: .pointer none :: .int .u64 0 :: .int .u64 0 :: .pointer none :: .int .u8 0 :: .int .u64 0 :: .int .u64 0 :: .pointer none :: .int .u32 label :: .int .u32 label2 :: .bool hl :: []) : List Value) = R := ⟨_, rfl⟩
  have hR' : List.toArray (routeL typ d0 d1 d2 d3 d4 d5 d6 d7 e0 e1 e2 e3 e4 e5 e6 e7 e8 e9 tag m0 m1 m2 m3 m4 m5 label label2 hl) = R := hR
  rw [hR'] at HRt hsr
  have hRs : R.size = 39 := by rw [← hR]; rfl
  obtain ⟨V1, hV1⟩ : ∃ V1, V.alloc (.cells R 45) = V1 := ⟨_, rfl⟩
  have hK1 : V1.heap.size = H + 5 := by rw [← hV1]; simp [hK]
  have hVV : Below (H + 4) V V1 := by rw [← hV1]; exact (Below.refl _ _).alloc (by omega) _
  rw [hV1] at HRt
  have HX1 : Hid (Boxes H d0 d1 d2 d3 d4 d5 d6 d7 e0 e1 e2 e3 e4 e5 e6 e7 e8 e9 m0 m1 m2 m3 m4 m5 g0 g1 g2 g3 g4 g5 g6 g7 g8 g9 g10 g11 g12 g13 g14 g15 V1) := hX.below hVV (by omega)
  have HB1 : Hid (Below H w V1) := hB.trans (hVV.mono (by omega))
  have HG1 : Hid (Glob a4 a6 V1) := hG.below HB1.out (by omega)
  have HC1 : Hid (Com none 0 zs V1) := hC.below HB1.out (by omega)
  have HRT : Hid (Rt (H + 4) typ e0 e1 e2 e3 e4 e5 e6 e7 e8 e9 tag 0 0 none label V1) := HRt
  clear HRt hR'
  obtain ⟨-, -, -, -, -, -, -, -, -, -, -, -, -, -, -, -, -, -, -, -, -, -, -, -, vg0, vg1, vg2, vg3, vg4, vg5, vg6, vg7, vg8, vg9, vg10, vg11, vg12, vg13, vg14, vg15⟩ := HX1.out.all
  have HBLK : Hid (V1.heap[H + 4]? = some (.cells (List.toArray (routeL typ d0 d1 d2 d3 d4 d5 d6 d7 e0 e1 e2 e3 e4 e5 e6 e7 e8 e9 tag m0 m1 m2 m3 m4 m5 label label2 hl)) 45 (0, 0))) := by
    show _ = _
    rw [← hV1, ← hR, ← hK]; exact heap_alloc_new _ _
  have HCALL := hid_of (from4_any g0 g1 g2 g3 a4 V1 hg0 hg1 hg2 hg3 HG1.out.z4 (by omega))
  have hU : (typ = 5 → ∀ V, Glob a4 a6 V → Calls Tryd.prog 12 #[.agg #[.int .u64 0, .int .u64 (lo4 g0 g1 g2 g3), .pointer (some a4)]] V fun e V' => e = .returned (.bool (zeroB [g0, g1, g2, g3])) ∧ Below V.heap.size V V') := fun _ V hV => unsp4_all g0 g1 g2 g3 hg0 hg1 hg2 hg3 a4 a6 V hV
  have hGL : (zeroB [g0, g1, g2, g3]) = zeroB ([g0, g1, g2, g3, g4, g5, g6, g7, g8, g9, g10, g11, g12, g13, g14, g15].take 4) := rfl
  obtain ⟨u, hu⟩ : ∃ u, u = (zeroB [g0, g1, g2, g3]) := ⟨_, rfl⟩
  rw [← hu] at hU hGL
  obtain ⟨LO, hLO⟩ : ∃ x, x = (lo4 g0 g1 g2 g3) := ⟨_, rfl⟩
  rw [← hLO] at hU HCALL
  skip
  have HU := hid_of hU
  have HGL := hid_of hGL
  clear hU hGL hu hLO  hg0 hg1 hg2 hg3 hg4 hg5 hg6 hg7 hg8 hg9 hg10 hg11 hg12 hg13 hg14 hg15 hG hC hB hX hVV
  go_enter Tryd.func3, Tryd.ntmps3
  go_wp2_with fail
  refine HCALL.out.mono ?_
  rintro e w1 ⟨rfl, hb1⟩
  rw [hK1] at hb1
  have hblk := (hb1.block (H + 4) (by omega)).trans HBLK.out
  have c33 : w1.cell? ⟨H + 4, 33, none⟩ = some (.int .u64 0) := (cell_of_row _ _ 33 _ 45 (0, 0) hblk).trans rfl
  have c34 : w1.cell? ⟨H + 4, 34, none⟩ = some (.int .u64 0) := (cell_of_row _ _ 34 _ 45 (0, 0) hblk).trans rfl
  have c35 : w1.cell? ⟨H + 4, 35, none⟩ = some (.pointer none) := (cell_of_row _ _ 35 _ 45 (0, 0) hblk).trans rfl
  have z33 := free_of_block hblk 33
  have z34 := free_of_block hblk 34
  have z35 := free_of_block hblk 35
  have hRT := Rt.gw w1 (H + 4) typ d0 d1 d2 d3 d4 d5 d6 d7 e0 e1 e2 e3 e4 e5 e6 e7 e8 e9 tag m0 m1 m2 m3 m4 m5 label label2 hl hblk 0 LO (some a4)
  have hb2 : Below (H + 4) V1 (((w1.setCell ⟨H + 4, 33, none⟩ (.int .u64 0)).setCell ⟨H + 4, 34, none⟩ (.int .u64 LO)).setCell ⟨H + 4, 35, none⟩ (.pointer (some a4))) :=
    (((hb1.mono (B' := H + 4) (by omega)).setCell (p := ⟨H + 4, 33, none⟩) (Nat.le_refl _) _).setCell (p := ⟨H + 4, 34, none⟩) (Nat.le_refl _) _).setCell (p := ⟨H + 4, 35, none⟩) (Nat.le_refl _) _
  obtain ⟨S, hS⟩ : ∃ S, (((w1.setCell ⟨H + 4, 33, none⟩ (.int .u64 0)).setCell ⟨H + 4, 34, none⟩ (.int .u64 LO)).setCell ⟨H + 4, 35, none⟩ (.pointer (some a4))).heap.size = S := ⟨_, rfl⟩
  have hS5 : H + 5 ≤ S := by rw [← hS, ← hK1]; exact hb2.size
  obtain ⟨V2, hV2⟩ : ∃ V2, (((w1.setCell ⟨H + 4, 33, none⟩ (.int .u64 0)).setCell ⟨H + 4, 34, none⟩ (.int .u64 LO)).setCell ⟨H + 4, 35, none⟩ (.pointer (some a4))) = V2 := ⟨_, rfl⟩
  rw [hV2] at hS hb2 hRT
  have HX2' := hid_of (HX1.out.below hb2 (by omega))
  have HB2' := hid_of (HB1.out.trans (hb2.mono (by omega)))
  have HG2' := hid_of (HGW.out.below HB2'.out (by omega))
  have HC2' := hid_of (HCW.out.below HB2'.out (by omega))
  have HRT2 := hid_of hRT
  clear kd0 kd1 kd2 kd3 kd4 kd5 kd6 kd7 ke0 ke1 ke2 ke3 ke4 ke5 ke6 ke7 ke8 ke9 km0 km1 km2 km3 km4 km5 kg0 kg1 kg2 kg3 kg4 kg5 kg6 kg7 kg8 kg9 kg10 kg11 kg12 kg13 kg14 kg15 vg0 vg1 vg2 vg3 vg4 vg5 vg6 vg7 vg8 vg9 vg10 vg11 vg12 vg13 vg14 vg15 hV hV1 hK hK1 hR hRs hsr HX1 HB1 HG1 HC1 HRT HBLK HCALL hblk hb1 hb2 hRT HGW HCW
  go_wp2_with fail
  refine (call_seven H (H + 4) S typ d0 d1 d2 d3 d4 d5 d6 d7 e0 e1 e2 e3 e4 e5 e6 e7 e8 e9 tag m0 m1 m2 m3 m4 m5 g0 g1 g2 g3 g4 g5 g6 g7 g8 g9 g10 g11 g12 g13 g14 g15 4 label 0 LO (some a4) none none 0 cap 0 zs u a4 a6 w V2 hS (by omega) HX2'.out HRT2.out HG2'.out HB2'.out HC2'.out HC2'.out (by omega) hbd HU.out (fun _ => Or.inl ⟨rfl, HGL.out⟩)).mono ?_
  rintro e w2 ⟨got, rfl, h15, hX2, h8⟩
  have H8 := hid_of h8
  clear c33 c34 c35 z33 z34 z35 hV2 hS HX2' HB2' HG2' HC2' HRT2 HU HGL hbd h8
  obtain ⟨kd0, kd1, kd2, kd3, kd4, kd5, kd6, kd7, ke0, ke1, ke2, ke3, ke4, ke5, ke6, ke7, ke8, ke9, km0, km1, km2, km3, km4, km5, kg0, kg1, kg2, kg3, kg4, kg5, kg6, kg7, kg8, kg9, kg10, kg11, kg12, kg13, kg14, kg15⟩ := hX2.all
  by_cases h5 : 5 < e0
  · have g15 : (got == 15) = true := by simp [h15.2 h5]
    have d5 : decide (5 < e0) = true := decide_eq_true h5
    clear h15
    go_wp2_with fail
    refine H8.out.mono ?_
    rintro e w3 ⟨rfl, hb3, k0⟩
    go_wp2
    go_ret
    exact ⟨rfl, by rw [hH]; exact hb3⟩
  · have g15 : (got == 15) = false := by simp [mt h15.1 h5]
    have d5 : decide (5 < e0) = false := decide_eq_false h5
    clear h15
    go_wp2_with fail
    refine H8.out.mono ?_
    rintro e w3 ⟨rfl, hb3, k0⟩
    go_wp2
    go_ret
    exact ⟨rfl, by rw [hH]; exact hb3⟩

end Go.Proofs.Qxb6003815aDoor
