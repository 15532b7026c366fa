/-
  The law's walk: an IPv4 gateway, communities.
-/
import Derived.Test.Qxb6003815aDoorTop3
namespace Go.Proofs.Qxb6003815aDoor
open Go.ChangeShapes Go.WideShapes Go.ChangeAt Go.RowKit
set_option linter.unusedVariables false

set_option maxRecDepth 100000 in
set_option maxHeartbeats 3200000 in
theorem top_b_some (typ d0 d1 d2 d3 d4 d5 d6 d7 e0 e1 e2 e3 e4 e5 e6 e7 e8 e9 tag m0 m1 m2 m3 m4 m5 label label2 : Int) (hl : Bool) (g0 g1 g2 g3 g4 g5 g6 g7 g8 g9 g10 g11 g12 g13 g14 g15 : Int) (ad : Option Addr) (n cap : Nat) (w : World) (a4 a6 : Addr) (zs : List Int) (hn : n ≤ 65536) (h2 : label < 16777216) (h3 : label2 < 16777216) (hG : Glob a4 a6 w) (hbd : ∀ i j, 0 ≤ cB zs i j ∧ cB zs i j ≤ 255)
    (hg0 : 0 ≤ g0 ∧ g0 ≤ 255) (hg1 : 0 ≤ g1 ∧ g1 ≤ 255) (hg2 : 0 ≤ g2 ∧ g2 ≤ 255) (hg3 : 0 ≤ g3 ∧ g3 ≤ 255) (hg4 : 0 ≤ g4 ∧ g4 ≤ 255) (hg5 : 0 ≤ g5 ∧ g5 ≤ 255) (hg6 : 0 ≤ g6 ∧ g6 ≤ 255) (hg7 : 0 ≤ g7 ∧ g7 ≤ 255) (hg8 : 0 ≤ g8 ∧ g8 ≤ 255) (hg9 : 0 ≤ g9 ∧ g9 ≤ 255) (hg10 : 0 ≤ g10 ∧ g10 ≤ 255) (hg11 : 0 ≤ g11 ∧ g11 ≤ 255) (hg12 : 0 ≤ g12 ∧ g12 ≤ 255) (hg13 : 0 ≤ g13 ∧ g13 ≤ 255) (hg14 : 0 ≤ g14 ∧ g14 ≤ 255) (hg15 : 0 ≤ g15 ∧ g15 ≤ 255) (hne : ad ≠ none) (hC : Com ad n zs w) (t : typ = 5) :
    Calls Tryd.prog 3 #[.int .u8 typ, .agg #[.int .u8 d0, .int .u8 d1, .int .u8 d2, .int .u8 d3, .int .u8 d4, .int .u8 d5, .int .u8 d6, .int .u8 d7], .agg #[.int .u8 e0, .int .u8 e1, .int .u8 e2, .int .u8 e3, .int .u8 e4, .int .u8 e5, .int .u8 e6, .int .u8 e7, .int .u8 e8, .int .u8 e9], .int .u32 tag, .agg #[.int .u8 m0, .int .u8 m1, .int .u8 m2, .int .u8 m3, .int .u8 m4, .int .u8 m5], .int .u32 label, .int .u32 label2, .bool hl, .int .u8 4, .agg #[.int .u8 g0, .int .u8 g1, .int .u8 g2, .int .u8 g3, .int .u8 g4, .int .u8 g5, .int .u8 g6, .int .u8 g7, .int .u8 g8, .int .u8 g9, .int .u8 g10, .int .u8 g11, .int .u8 g12, .int .u8 g13, .int .u8 g14, .int .u8 g15], .slice ad n cap] w fun e w' => e = .returned (.bool true) ∧ Below w.heap.size w w' := by
  have hB := four_boxes w (.cells #[.int .u8 d0, .int .u8 d1, .int .u8 d2, .int .u8 d3, .int .u8 d4, .int .u8 d5, .int .u8 d6, .int .u8 d7] 22) (.cells #[.int .u8 e0, .int .u8 e1, .int .u8 e2, .int .u8 e3, .int .u8 e4, .int .u8 e5, .int .u8 e6, .int .u8 e7, .int .u8 e8, .int .u8 e9] 23) (.cells #[.int .u8 m0, .int .u8 m1, .int .u8 m2, .int .u8 m3, .int .u8 m4, .int .u8 m5] 25) (.cells #[.int .u8 g0, .int .u8 g1, .int .u8 g2, .int .u8 g3, .int .u8 g4, .int .u8 g5, .int .u8 g6, .int .u8 g7, .int .u8 g8, .int .u8 g9, .int .u8 g10, .int .u8 g11, .int .u8 g12, .int .u8 g13, .int .u8 g14, .int .u8 g15] 26)
  have hX := Boxes.new w d0 d1 d2 d3 d4 d5 d6 d7 e0 e1 e2 e3 e4 e5 e6 e7 e8 e9 m0 m1 m2 m3 m4 m5 g0 g1 g2 g3 g4 g5 g6 g7 g8 g9 g10 g11 g12 g13 g14 g15
  obtain ⟨H, hH⟩ : ∃ H, w.heap.size = H := ⟨_, rfl⟩
  rw [hH] at hX hB
  have hK : ((((w.alloc (.cells #[.int .u8 d0, .int .u8 d1, .int .u8 d2, .int .u8 d3, .int .u8 d4, .int .u8 d5, .int .u8 d6, .int .u8 d7] 22)).alloc (.cells #[.int .u8 e0, .int .u8 e1, .int .u8 e2, .int .u8 e3, .int .u8 e4, .int .u8 e5, .int .u8 e6, .int .u8 e7, .int .u8 e8, .int .u8 e9] 23)).alloc (.cells #[.int .u8 m0, .int .u8 m1, .int .u8 m2, .int .u8 m3, .int .u8 m4, .int .u8 m5] 25)).alloc (.cells #[.int .u8 g0, .int .u8 g1, .int .u8 g2, .int .u8 g3, .int .u8 g4, .int .u8 g5, .int .u8 g6, .int .u8 g7, .int .u8 g8, .int .u8 g9, .int .u8 g10, .int .u8 g11, .int .u8 g12, .int .u8 g13, .int .u8 g14, .int .u8 g15] 26)).heap.size = H + 4 := by simp [hH]
  obtain ⟨V, hV⟩ : ∃ V, ((((w.alloc (.cells #[.int .u8 d0, .int .u8 d1, .int .u8 d2, .int .u8 d3, .int .u8 d4, .int .u8 d5, .int .u8 d6, .int .u8 d7] 22)).alloc (.cells #[.int .u8 e0, .int .u8 e1, .int .u8 e2, .int .u8 e3, .int .u8 e4, .int .u8 e5, .int .u8 e6, .int .u8 e7, .int .u8 e8, .int .u8 e9] 23)).alloc (.cells #[.int .u8 m0, .int .u8 m1, .int .u8 m2, .int .u8 m3, .int .u8 m4, .int .u8 m5] 25)).alloc (.cells #[.int .u8 g0, .int .u8 g1, .int .u8 g2, .int .u8 g3, .int .u8 g4, .int .u8 g5, .int .u8 g6, .int .u8 g7, .int .u8 g8, .int .u8 g9, .int .u8 g10, .int .u8 g11, .int .u8 g12, .int .u8 g13, .int .u8 g14, .int .u8 g15] 26)) = V := ⟨_, rfl⟩
  rw [hV] at hB hX hK
  have l2 : decide (16777216 ≤ label) = false := decide_eq_false (by omega)
  have l3 : decide (16777216 ≤ label2) = false := decide_eq_false (by omega)
  have q5 : (typ == 5) = true := by simp [t]
  have q5' : (typ != 5) = false := by simp [t]
  have q1 : (typ != 1) = true := by simp [t]
  have q2 : (typ != 2) = true := by simp [t]
  have q4 : (typ != 4) = true := by simp [t]
  clear t
  have l1 : decide (65536 < (n : Int)) = false := decide_eq_false (by omega)
  have HGW := hid_of hG
  have HCW := hid_of hC
  obtain ⟨kd0, kd1, kd2, kd3, kd4, kd5, kd6, kd7, ke0, ke1, ke2, ke3, ke4, ke5, ke6, ke7, ke8, ke9, km0, km1, km2, km3, km4, km5, kg0, kg1, kg2, kg3, kg4, kg5, kg6, kg7, kg8, kg9, kg10, kg11, kg12, kg13, kg14, kg15⟩ := hX.all
  have HRt := Rt.new V (H + 4) hK typ d0 d1 d2 d3 d4 d5 d6 d7 e0 e1 e2 e3 e4 e5 e6 e7 e8 e9 tag m0 m1 m2 m3 m4 m5 label label2 hl
  have hsr := store_route V (H + 4) hK (List.toArray (routeL typ d0 d1 d2 d3 d4 d5 d6 d7 e0 e1 e2 e3 e4 e5 e6 e7 e8 e9 tag m0 m1 m2 m3 m4 m5 label label2 hl)) rfl (routeL_one typ d0 d1 d2 d3 d4 d5 d6 d7 e0 e1 e2 e3 e4 e5 e6 e7 e8 e9 tag m0 m1 m2 m3 m4 m5 label label2 hl)
  obtain ⟨R, hR⟩ : ∃ R, List.toArray ((.int .u8 typ :: .int .u8 d0 :: .int .u8 d1 :: .int .u8 d2 :: .int .u8 d3 :: .int .u8 d4 :: .int .u8 d5 :: .int .u8 d6 :: .int .u8 d7 :: .int .u8 e0 :: .int .u8 e1 :: .int .u8 e2 :: .int .u8 e3 :: .int .u8 e4 :: .int .u8 e5 :: .int .u8 e6 :: .int .u8 e7 :: .int .u8 e8 :: .int .u8 e9 :: .int .u32 tag :: .int .u8 m0 :: .int .u8 m1 :: .int .u8 m2 :: .int .u8 m3 :: .int .u8 m4 :: .int .u8 m5 :: .int .u64 0 :: .int .u64 0 :: .pointer none :: .int .u64 0 :: .int .u64 0 :: .pointer none :: .int .u8 0 :: .int .u64 0 :: .int .u64 0 :: .pointer none :: .int .u32 label :: .int .u32 label2 :: .bool hl :: []) : List Value) = R := ⟨_, rfl⟩
  have hR' : List.toArray (routeL typ d0 d1 d2 d3 d4 d5 d6 d7 e0 e1 e2 e3 e4 e5 e6 e7 e8 e9 tag m0 m1 m2 m3 m4 m5 label label2 hl) = R := hR
  rw [hR'] at HRt hsr
  have hRs : R.size = 39 := by rw [← hR]; rfl
  obtain ⟨V1, hV1⟩ : ∃ V1, V.alloc (.cells R 45) = V1 := ⟨_, rfl⟩
  have hK1 : V1.heap.size = H + 5 := by rw [← hV1]; simp [hK]
  have hVV : Below (H + 4) V V1 := by rw [← hV1]; exact (Below.refl _ _).alloc (by omega) _
  rw [hV1] at HRt
  have HX1 : Hid (Boxes H d0 d1 d2 d3 d4 d5 d6 d7 e0 e1 e2 e3 e4 e5 e6 e7 e8 e9 m0 m1 m2 m3 m4 m5 g0 g1 g2 g3 g4 g5 g6 g7 g8 g9 g10 g11 g12 g13 g14 g15 V1) := hX.below hVV (by omega)
  have HB1 : Hid (Below H w V1) := hB.trans (hVV.mono (by omega))
  have HG1 : Hid (Glob a4 a6 V1) := hG.below HB1.out (by omega)
  have HC1 : Hid (Com ad n zs V1) := hC.below HB1.out (by omega)
  have HRT : Hid (Rt (H + 4) typ e0 e1 e2 e3 e4 e5 e6 e7 e8 e9 tag 0 0 none label V1) := HRt
  clear HRt hR'
  obtain ⟨-, -, -, -, -, -, -, -, -, -, -, -, -, -, -, -, -, -, -, -, -, -, -, -, vg0, vg1, vg2, vg3, vg4, vg5, vg6, vg7, vg8, vg9, vg10, vg11, vg12, vg13, vg14, vg15⟩ := HX1.out.all
  have HBLK : Hid (V1.heap[H + 4]? = some (.cells (List.toArray (routeL typ d0 d1 d2 d3 d4 d5 d6 d7 e0 e1 e2 e3 e4 e5 e6 e7 e8 e9 tag m0 m1 m2 m3 m4 m5 label label2 hl)) 45 (0, 0))) := by
    show _ = _
    rw [← hV1, ← hR, ← hK]; exact heap_alloc_new _ _
  have HCALL := hid_of (from4_any g0 g1 g2 g3 a4 V1 hg0 hg1 hg2 hg3 HG1.out.z4 (by omega))
  have hU : (typ = 5 → ∀ V, Glob a4 a6 V → Calls Tryd.prog 12 #[.agg #[.int .u64 0, .int .u64 (lo4 g0 g1 g2 g3), .pointer (some a4)]] V fun e V' => e = .returned (.bool (zeroB [g0, g1, g2, g3])) ∧ Below V.heap.size V V') := fun _ V hV => unsp4_all g0 g1 g2 g3 hg0 hg1 hg2 hg3 a4 a6 V hV
  have hGL : (zeroB [g0, g1, g2, g3]) = zeroB ([g0, g1, g2, g3, g4, g5, g6, g7, g8, g9, g10, g11, g12, g13, g14, g15].take 4) := rfl
  obtain ⟨u, hu⟩ : ∃ u, u = (zeroB [g0, g1, g2, g3]) := ⟨_, rfl⟩
  rw [← hu] at hU hGL
  obtain ⟨LO, hLO⟩ : ∃ x, x = (lo4 g0 g1 g2 g3) := ⟨_, rfl⟩
  rw [← hLO] at hU HCALL
  skip
  have HU := hid_of hU
  have HGL := hid_of hGL
  clear hU hGL hu hLO  hg0 hg1 hg2 hg3 hg4 hg5 hg6 hg7 hg8 hg9 hg10 hg11 hg12 hg13 hg14 hg15 hG hC hB hX hVV
  go_enter Tryd.func3, Tryd.ntmps3
  go_wp2_with fail
  refine HCALL.out.mono ?_
  rintro e w1 ⟨rfl, hb1⟩
  rw [hK1] at hb1
  have hblk := (hb1.block (H + 4) (by omega)).trans HBLK.out
  have c33 : w1.cell? ⟨H + 4, 33, none⟩ = some (.int .u64 0) := (cell_of_row _ _ 33 _ 45 (0, 0) hblk).trans rfl
  have c34 : w1.cell? ⟨H + 4, 34, none⟩ = some (.int .u64 0) := (cell_of_row _ _ 34 _ 45 (0, 0) hblk).trans rfl
  have c35 : w1.cell? ⟨H + 4, 35, none⟩ = some (.pointer none) := (cell_of_row _ _ 35 _ 45 (0, 0) hblk).trans rfl
  have z33 := free_of_block hblk 33
  have z34 := free_of_block hblk 34
  have z35 := free_of_block hblk 35
  have hRT := Rt.gw w1 (H + 4) typ d0 d1 d2 d3 d4 d5 d6 d7 e0 e1 e2 e3 e4 e5 e6 e7 e8 e9 tag m0 m1 m2 m3 m4 m5 label label2 hl hblk 0 LO (some a4)
  have hb2 : Below (H + 4) V1 (((w1.setCell ⟨H + 4, 33, none⟩ (.int .u64 0)).setCell ⟨H + 4, 34, none⟩ (.int .u64 LO)).setCell ⟨H + 4, 35, none⟩ (.pointer (some a4))) :=
    (((hb1.mono (B' := H + 4) (by omega)).setCell (p := ⟨H + 4, 33, none⟩) (Nat.le_refl _) _).setCell (p := ⟨H + 4, 34, none⟩) (Nat.le_refl _) _).setCell (p := ⟨H + 4, 35, none⟩) (Nat.le_refl _) _
  obtain ⟨S, hS⟩ : ∃ S, (((w1.setCell ⟨H + 4, 33, none⟩ (.int .u64 0)).setCell ⟨H + 4, 34, none⟩ (.int .u64 LO)).setCell ⟨H + 4, 35, none⟩ (.pointer (some a4))).heap.size = S := ⟨_, rfl⟩
  have hS5 : H + 5 ≤ S := by rw [← hS, ← hK1]; exact hb2.size
  obtain ⟨V2, hV2⟩ : ∃ V2, (((w1.setCell ⟨H + 4, 33, none⟩ (.int .u64 0)).setCell ⟨H + 4, 34, none⟩ (.int .u64 LO)).setCell ⟨H + 4, 35, none⟩ (.pointer (some a4))) = V2 := ⟨_, rfl⟩
  rw [hV2] at hS hb2 hRT
  have HX2' := hid_of (HX1.out.below hb2 (by omega))
  have HB2' := hid_of (HB1.out.trans (hb2.mono (by omega)))
  have HG2' := hid_of (HGW.out.below HB2'.out (by omega))
  have HC2' := hid_of (HCW.out.below HB2'.out (by omega))
  have HRT2 := hid_of hRT
  clear kd0 kd1 kd2 kd3 kd4 kd5 kd6 kd7 ke0 ke1 ke2 ke3 ke4 ke5 ke6 ke7 ke8 ke9 km0 km1 km2 km3 km4 km5 kg0 kg1 kg2 kg3 kg4 kg5 kg6 kg7 kg8 kg9 kg10 kg11 kg12 kg13 kg14 kg15 vg0 vg1 vg2 vg3 vg4 vg5 vg6 vg7 vg8 vg9 vg10 vg11 vg12 vg13 vg14 vg15 hV hV1 hK hK1 hR hRs hsr HX1 HB1 HG1 HC1 HRT HBLK HCALL hblk hb1 hb2 hRT HGW HCW
  have hnn : ∀ W, (binOp .neq 27 (.slice ad n cap) (.slice none 0 0)).run Tryd.prog W = .ok (.bool true) W := fun W => by
    rw [run_neq_slice_nil_any W 27 49 ad n cap 0 0 Tryd.underlying27]
    cases ad with
    | none => exact absurd rfl hne
    | some _ => rfl
  have hmk := make_com n (by omega) V2
  rw [hS] at hmk
  obtain ⟨g', hg'⟩ := rowIs_made_any V2 #[.int .u8 0, .int .u8 0, .int .u8 0, .int .u8 0, .int .u8 0, .int .u8 0, .int .u8 0, .int .u8 0] (n * 8) 49
  rw [hS] at hg'
  have hVm : Below (S) V2 (V2.alloc (.cells (madeCells #[.int .u8 0, .int .u8 0, .int .u8 0, .int .u8 0, .int .u8 0, .int .u8 0, .int .u8 0, .int .u8 0] (n * 8)) 49)) := (Below.refl _ _).alloc (by omega) _
  obtain ⟨VM, hVM⟩ : ∃ VM, V2.alloc (.cells (madeCells #[.int .u8 0, .int .u8 0, .int .u8 0, .int .u8 0, .int .u8 0, .int .u8 0, .int .u8 0, .int .u8 0] (n * 8)) 49) = VM := ⟨_, rfl⟩
  rw [hVM] at hmk hg' hVm
  have HCP : Hid (Copy (S) n 0 zs VM) := ⟨g', hg', fun i j hi => absurd hi (Nat.not_lt_zero _)⟩
  have HVM : Hid (Below (S) V2 VM) := hVm
  have l1 : decide (65536 < (n : Int)) = false := decide_eq_false (by omega)
  clear hg' hVm
  clear hne
  go_wp2
  go_loopw [25] (fun i wr => ∃ k : Nat, k ≤ n ∧ i = .int .i64 k ∧ Copy (S) n k zs wr ∧ Below (S) V2 wr) (fun i _ => n - (intOf i).toNat)
  case atStart => exact ⟨0, Nat.zero_le _, rfl, HCP.out, HVM.out⟩
  case round =>
    obtain ⟨k, hk, rfl, hcp, hnx⟩ := hrel
    by_cases hlt : k < n
    · obtain ⟨b, off, rfl, hrow⟩ := (HC2'.out.below hnx (by omega)) (by omega)
      have q0 := hrow.cell k 0 hlt (by omega)
      rw [Nat.add_zero] at q0
      have q1 := hrow.cell k 1 hlt (by omega)
      have q2 := hrow.cell k 2 hlt (by omega)
      have q3 := hrow.cell k 3 hlt (by omega)
      have q4 := hrow.cell k 4 hlt (by omega)
      have q5 := hrow.cell k 5 hlt (by omega)
      have q6 := hrow.cell k 6 hlt (by omega)
      have q7 := hrow.cell k 7 hlt (by omega)
      obtain ⟨x0, hx0⟩ : ∃ x, x = cB zs k 0 := ⟨_, rfl⟩
      obtain ⟨x1, hx1⟩ : ∃ x, x = cB zs k 1 := ⟨_, rfl⟩
      obtain ⟨x2, hx2⟩ : ∃ x, x = cB zs k 2 := ⟨_, rfl⟩
      obtain ⟨x3, hx3⟩ : ∃ x, x = cB zs k 3 := ⟨_, rfl⟩
      obtain ⟨x4, hx4⟩ : ∃ x, x = cB zs k 4 := ⟨_, rfl⟩
      obtain ⟨x5, hx5⟩ : ∃ x, x = cB zs k 5 := ⟨_, rfl⟩
      obtain ⟨x6, hx6⟩ : ∃ x, x = cB zs k 6 := ⟨_, rfl⟩
      obtain ⟨x7, hx7⟩ : ∃ x, x = cB zs k 7 := ⟨_, rfl⟩
      rw [← hx0] at q0
      rw [← hx1] at q1
      rw [← hx2] at q2
      rw [← hx3] at q3
      rw [← hx4] at q4
      rw [← hx5] at q5
      rw [← hx6] at q6
      rw [← hx7] at q7
      obtain ⟨gg, hgg, hgz⟩ := hcp
      obtain ⟨y0, r0⟩ : ∃ y, wr.cell? ⟨S, k * 8, none⟩ = some y := ⟨_, hgg.cell (by omega)⟩
      have z0 := hgg.frozen (k * 8)
      obtain ⟨y1, r1⟩ : ∃ y, wr.cell? ⟨S, k * 8 + 1, none⟩ = some y := ⟨_, hgg.cell (by omega)⟩
      have z1 := hgg.frozen (k * 8 + 1)
      obtain ⟨y2, r2⟩ : ∃ y, wr.cell? ⟨S, k * 8 + 2, none⟩ = some y := ⟨_, hgg.cell (by omega)⟩
      have z2 := hgg.frozen (k * 8 + 2)
      obtain ⟨y3, r3⟩ : ∃ y, wr.cell? ⟨S, k * 8 + 3, none⟩ = some y := ⟨_, hgg.cell (by omega)⟩
      have z3 := hgg.frozen (k * 8 + 3)
      obtain ⟨y4, r4⟩ : ∃ y, wr.cell? ⟨S, k * 8 + 4, none⟩ = some y := ⟨_, hgg.cell (by omega)⟩
      have z4 := hgg.frozen (k * 8 + 4)
      obtain ⟨y5, r5⟩ : ∃ y, wr.cell? ⟨S, k * 8 + 5, none⟩ = some y := ⟨_, hgg.cell (by omega)⟩
      have z5 := hgg.frozen (k * 8 + 5)
      obtain ⟨y6, r6⟩ : ∃ y, wr.cell? ⟨S, k * 8 + 6, none⟩ = some y := ⟨_, hgg.cell (by omega)⟩
      have z6 := hgg.frozen (k * 8 + 6)
      obtain ⟨y7, r7⟩ : ∃ y, wr.cell? ⟨S, k * 8 + 7, none⟩ = some y := ⟨_, hgg.cell (by omega)⟩
      have z7 := hgg.frozen (k * 8 + 7)
      have HST : Hid (Copy (S) n (k + 1) zs _) := Copy.step hgg hgz x0 x1 x2 x3 x4 x5 x6 x7 hx0 hx1 hx2 hx3 hx4 hx5 hx6 hx7
      clear hgg hgz hrow HCP HVM hx0 hx1 hx2 hx3 hx4 hx5 hx6 hx7 c33 c34 c35 z33 z34 z35 hV2 hmk hVM
      go_wp2
      go_roundw
      case rel => exact ⟨k + 1, by omega, by go_num, HST.out, ((((((((hnx.setCell (p := ⟨S, k * 8, none⟩) (Nat.le_refl _) _).setCell (p := ⟨S, k * 8 + 1, none⟩) (Nat.le_refl _) _).setCell (p := ⟨S, k * 8 + 2, none⟩) (Nat.le_refl _) _).setCell (p := ⟨S, k * 8 + 3, none⟩) (Nat.le_refl _) _).setCell (p := ⟨S, k * 8 + 4, none⟩) (Nat.le_refl _) _).setCell (p := ⟨S, k * 8 + 5, none⟩) (Nat.le_refl _) _).setCell (p := ⟨S, k * 8 + 6, none⟩) (Nat.le_refl _) _).setCell (p := ⟨S, k * 8 + 7, none⟩) (Nat.le_refl _) _)⟩
      case measure => simp [intOf]; omega
    · have hke : k = n := by omega
      subst hke
      obtain ⟨S2, hS2⟩ : ∃ S2, wr.heap.size = S2 := ⟨_, rfl⟩
      have hS3 : S ≤ S2 := by rw [← hS2, ← hS]; exact hnx.size
      have HX3 := hid_of (HX2'.out.below hnx (by omega))
      have HRT3 := hid_of (HRT2.out.below hnx (by omega))
      have HG3 := hid_of (HG2'.out.below hnx (by omega))
      have HC3 := hid_of (HC2'.out.below hnx (by omega))
      have HB3 := hid_of (HB2'.out.trans (hnx.mono (by omega)))
      have HC4 : Hid (Com (some ⟨S, 0, none⟩) k zs wr) := fun _ => ⟨_, _, rfl, hcp.rows hbd⟩
      clear hcp HX2' HRT2 HG2' HC2' HB2' HCP HVM c33 c34 c35 z33 z34 z35 hV2 hmk hVM
      go_wp2_with fail
      refine (call_seven H (H + 4) S2 typ d0 d1 d2 d3 d4 d5 d6 d7 e0 e1 e2 e3 e4 e5 e6 e7 e8 e9 tag m0 m1 m2 m3 m4 m5 g0 g1 g2 g3 g4 g5 g6 g7 g8 g9 g10 g11 g12 g13 g14 g15 4 label 0 LO (some a4) ad (some ⟨S, 0, none⟩) k cap k zs u a4 a6 w wr hS2 (by omega) HX3.out HRT3.out HG3.out HB3.out HC3.out HC4.out (by omega) hbd HU.out (fun _ => Or.inl ⟨rfl, HGL.out⟩)).mono ?_
      rintro e w2 ⟨got, rfl, h15, hX2, h8⟩
      have H8 := hid_of h8
      clear HX3 HRT3 HG3 HC3 HB3 HC4 hnx hbd hS2 hS3 h8
      obtain ⟨kd0, kd1, kd2, kd3, kd4, kd5, kd6, kd7, ke0, ke1, ke2, ke3, ke4, ke5, ke6, ke7, ke8, ke9, km0, km1, km2, km3, km4, km5, kg0, kg1, kg2, kg3, kg4, kg5, kg6, kg7, kg8, kg9, kg10, kg11, kg12, kg13, kg14, kg15⟩ := hX2.all
      by_cases h5 : 5 < e0
      · have g15 : (got == 15) = true := by simp [h15.2 h5]
        have d5 : decide (5 < e0) = true := decide_eq_true h5
        clear h15
        go_wp2_with fail
        refine H8.out.mono ?_
        rintro e w3 ⟨rfl, hb3, k0⟩
        go_wp2
        go_ret
        exact ⟨rfl, by rw [hH]; exact hb3⟩
      · have g15 : (got == 15) = false := by simp [mt h15.1 h5]
        have d5 : decide (5 < e0) = false := decide_eq_false h5
        clear h15
        go_wp2_with fail
        refine H8.out.mono ?_
        rintro e w3 ⟨rfl, hb3, k0⟩
        go_wp2
        go_ret
        exact ⟨rfl, by rw [hH]; exact hb3⟩

end Go.Proofs.Qxb6003815aDoor
