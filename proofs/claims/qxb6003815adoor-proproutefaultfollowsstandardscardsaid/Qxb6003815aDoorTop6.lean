/-
  The law's walk: no gateway, communities (2).
-/
import Derived.Test.Qxb6003815aDoorTop3
namespace Go.Proofs.Qxb6003815aDoor
open Go.ChangeShapes Go.WideShapes Go.ChangeAt Go.RowKit
set_option linter.unusedVariables false

set_option maxRecDepth 100000 in
set_option maxHeartbeats 3200000 in
theorem top_a2_some (typ d0 d1 d2 d3 d4 d5 d6 d7 e0 e1 e2 e3 e4 e5 e6 e7 e8 e9 tag m0 m1 m2 m3 m4 m5 label label2 : Int) (hl : Bool) (g0 g1 g2 g3 g4 g5 g6 g7 g8 g9 g10 g11 g12 g13 g14 g15 : Int) (ad : Option Addr) (n cap : Nat) (w : World) (a4 a6 : Addr) (zs : List Int) (hn : n ≤ 65536) (h2 : label < 16777216) (h3 : label2 < 16777216) (hG : Glob a4 a6 w) (hbd : ∀ i j, 0 ≤ cB zs i j ∧ cB zs i j ≤ 255)
    (hne : ad ≠ none) (hC : Com ad n zs w) (t : typ = 2) :
    Calls Tryd.prog 3 #[.int .u8 typ, .agg #[.int .u8 d0, .int .u8 d1, .int .u8 d2, .int .u8 d3, .int .u8 d4, .int .u8 d5, .int .u8 d6, .int .u8 d7], .agg #[.int .u8 e0, .int .u8 e1, .int .u8 e2, .int .u8 e3, .int .u8 e4, .int .u8 e5, .int .u8 e6, .int .u8 e7, .int .u8 e8, .int .u8 e9], .int .u32 tag, .agg #[.int .u8 m0, .int .u8 m1, .int .u8 m2, .int .u8 m3, .int .u8 m4, .int .u8 m5], .int .u32 label, .int .u32 label2, .bool hl, .int .u8 0, .agg #[.int .u8 g0, .int .u8 g1, .int .u8 g2, .int .u8 g3, .int .u8 g4, .int .u8 g5, .int .u8 g6, .int .u8 g7, .int .u8 g8, .int .u8 g9, .int .u8 g10, .int .u8 g11, .int .u8 g12, .int .u8 g13, .int .u8 g14, .int .u8 g15], .slice ad n cap] w fun e w' => e = .returned (.bool true) ∧ Below w.heap.size w w' := by
  have hB := four_boxes w (.cells #[.int .u8 d0, .int .u8 d1, .int .u8 d2, .int .u8 d3, .int .u8 d4, .int .u8 d5, .int .u8 d6, .int .u8 d7] 22) (.cells #[.int .u8 e0, .int .u8 e1, .int .u8 e2, .int .u8 e3, .int .u8 e4, .int .u8 e5, .int .u8 e6, .int .u8 e7, .int .u8 e8, .int .u8 e9] 23) (.cells #[.int .u8 m0, .int .u8 m1, .int .u8 m2, .int .u8 m3, .int .u8 m4, .int .u8 m5] 25) (.cells #[.int .u8 g0, .int .u8 g1, .int .u8 g2, .int .u8 g3, .int .u8 g4, .int .u8 g5, .int .u8 g6, .int .u8 g7, .int .u8 g8, .int .u8 g9, .int .u8 g10, .int .u8 g11, .int .u8 g12, .int .u8 g13, .int .u8 g14, .int .u8 g15] 26)
  have hX := Boxes.new w d0 d1 d2 d3 d4 d5 d6 d7 e0 e1 e2 e3 e4 e5 e6 e7 e8 e9 m0 m1 m2 m3 m4 m5 g0 g1 g2 g3 g4 g5 g6 g7 g8 g9 g10 g11 g12 g13 g14 g15
  obtain ⟨H, hH⟩ : ∃ H, w.heap.size = H := ⟨_, rfl⟩
  rw [hH] at hX hB
  have hK : ((((w.alloc (.cells #[.int .u8 d0, .int .u8 d1, .int .u8 d2, .int .u8 d3, .int .u8 d4, .int .u8 d5, .int .u8 d6, .int .u8 d7] 22)).alloc (.cells #[.int .u8 e0, .int .u8 e1, .int .u8 e2, .int .u8 e3, .int .u8 e4, .int .u8 e5, .int .u8 e6, .int .u8 e7, .int .u8 e8, .int .u8 e9] 23)).alloc (.cells #[.int .u8 m0, .int .u8 m1, .int .u8 m2, .int .u8 m3, .int .u8 m4, .int .u8 m5] 25)).alloc (.cells #[.int .u8 g0, .int .u8 g1, .int .u8 g2, .int .u8 g3, .int .u8 g4, .int .u8 g5, .int .u8 g6, .int .u8 g7, .int .u8 g8, .int .u8 g9, .int .u8 g10, .int .u8 g11, .int .u8 g12, .int .u8 g13, .int .u8 g14, .int .u8 g15] 26)).heap.size = H + 4 := by simp [hH]
  obtain ⟨V, hV⟩ : ∃ V, ((((w.alloc (.cells #[.int .u8 d0, .int .u8 d1, .int .u8 d2, .int .u8 d3, .int .u8 d4, .int .u8 d5, .int .u8 d6, .int .u8 d7] 22)).alloc (.cells #[.int .u8 e0, .int .u8 e1, .int .u8 e2, .int .u8 e3, .int .u8 e4, .int .u8 e5, .int .u8 e6, .int .u8 e7, .int .u8 e8, .int .u8 e9] 23)).alloc (.cells #[.int .u8 m0, .int .u8 m1, .int .u8 m2, .int .u8 m3, .int .u8 m4, .int .u8 m5] 25)).alloc (.cells #[.int .u8 g0, .int .u8 g1, .int .u8 g2, .int .u8 g3, .int .u8 g4, .int .u8 g5, .int .u8 g6, .int .u8 g7, .int .u8 g8, .int .u8 g9, .int .u8 g10, .int .u8 g11, .int .u8 g12, .int .u8 g13, .int .u8 g14, .int .u8 g15] 26)) = V := ⟨_, rfl⟩
  rw [hV] at hB hX hK
  have l2 : decide (16777216 ≤ label) = false := decide_eq_false (by omega)
  have l3 : decide (16777216 ≤ label2) = false := decide_eq_false (by omega)
  have q5 : (typ == 5) = false := by simp [t]
  have q5' : (typ != 5) = true := by simp [t]
  have q1 : (typ != 1) = true := by simp [t]
  have q2 : (typ != 2) = false := by simp [t]
  have t5 : typ ≠ 5 := by omega
  clear t
  obtain ⟨kd0, kd1, kd2, kd3, kd4, kd5, kd6, kd7, ke0, ke1, ke2, ke3, ke4, ke5, ke6, ke7, ke8, ke9, km0, km1, km2, km3, km4, km5, kg0, kg1, kg2, kg3, kg4, kg5, kg6, kg7, kg8, kg9, kg10, kg11, kg12, kg13, kg14, kg15⟩ := hX.all
  have HRt := Rt.new V (H + 4) hK typ d0 d1 d2 d3 d4 d5 d6 d7 e0 e1 e2 e3 e4 e5 e6 e7 e8 e9 tag m0 m1 m2 m3 m4 m5 label label2 hl
  have hsr := store_route V (H + 4) hK (List.toArray (routeL typ d0 d1 d2 d3 d4 d5 d6 d7 e0 e1 e2 e3 e4 e5 e6 e7 e8 e9 tag m0 m1 m2 m3 m4 m5 label label2 hl)) rfl (routeL_one typ d0 d1 d2 d3 d4 d5 d6 d7 e0 e1 e2 e3 e4 e5 e6 e7 e8 e9 tag m0 m1 m2 m3 m4 m5 label label2 hl)
  obtain ⟨R, hR⟩ : ∃ R, List.toArray ((.int .u8 typ :: .int .u8 d0 :: .int .u8 d1 :: .int .u8 d2 :: .int .u8 d3 :: .int .u8 d4 :: .int .u8 d5 :: .int .u8 d6 :: .int .u8 d7 :: .int .u8 e0 :: .int .u8 e1 :: .int .u8 e2 :: .int .u8 e3 :: .int .u8 e4 :: .int .u8 e5 :: .int .u8 e6 :: .int .u8 e7 :: .int .u8 e8 :: .int .u8 e9 :: .int .u32 tag :: .int .u8 m0 :: .int .u8 m1 :: .int .u8 m2 :: .int .u8 m3 :: .int .u8 m4 :: .int .u8 m5 :: .int .u64 0 :: .int .u64 0 :: .pointer none :: .int .u64 0 :: .int .u64 0 :: .pointer none :: .int .u8 0 :: .int .u64 0 :: .int .u64 0 :: .pointer none :: .int .u32 label :: .int .u32 label2 :: .bool hl :: []) : List Value) = R := ⟨_, rfl⟩
  have hR' : List.toArray (routeL typ d0 d1 d2 d3 d4 d5 d6 d7 e0 e1 e2 e3 e4 e5 e6 e7 e8 e9 tag m0 m1 m2 m3 m4 m5 label label2 hl) = R := hR
  rw [hR'] at HRt hsr
  have hRs : R.size = 39 := by rw [← hR]; rfl
  obtain ⟨V1, hV1⟩ : ∃ V1, V.alloc (.cells R 45) = V1 := ⟨_, rfl⟩
  have hK1 : V1.heap.size = H + 5 := by rw [← hV1]; simp [hK]
  have hVV : Below (H + 4) V V1 := by rw [← hV1]; exact (Below.refl _ _).alloc (by omega) _
  rw [hV1] at HRt
  have HX1 : Hid (Boxes H d0 d1 d2 d3 d4 d5 d6 d7 e0 e1 e2 e3 e4 e5 e6 e7 e8 e9 m0 m1 m2 m3 m4 m5 g0 g1 g2 g3 g4 g5 g6 g7 g8 g9 g10 g11 g12 g13 g14 g15 V1) := hX.below hVV (by omega)
  have HB1 : Hid (Below H w V1) := hB.trans (hVV.mono (by omega))
  have HG1 : Hid (Glob a4 a6 V1) := hG.below HB1.out (by omega)
  have HC1 : Hid (Com ad n zs V1) := hC.below HB1.out (by omega)
  have HRT : Hid (Rt (H + 4) typ e0 e1 e2 e3 e4 e5 e6 e7 e8 e9 tag 0 0 none label V1) := HRt
  clear HRt hR'
  have hnn : ∀ W, (binOp .neq 27 (.slice ad n cap) (.slice none 0 0)).run Tryd.prog W = .ok (.bool true) W := fun W => by
    rw [run_neq_slice_nil_any W 27 49 ad n cap 0 0 Tryd.underlying27]
    cases ad with
    | none => exact absurd rfl hne
    | some _ => rfl
  have hmk := make_com n (by omega) V1
  rw [hK1] at hmk
  obtain ⟨g', hg'⟩ := rowIs_made_any V1 #[.int .u8 0, .int .u8 0, .int .u8 0, .int .u8 0, .int .u8 0, .int .u8 0, .int .u8 0, .int .u8 0] (n * 8) 49
  rw [hK1] at hg'
  have hVm : Below (H + 5) V1 (V1.alloc (.cells (madeCells #[.int .u8 0, .int .u8 0, .int .u8 0, .int .u8 0, .int .u8 0, .int .u8 0, .int .u8 0, .int .u8 0] (n * 8)) 49)) := (Below.refl _ _).alloc (by omega) _
  obtain ⟨VM, hVM⟩ : ∃ VM, V1.alloc (.cells (madeCells #[.int .u8 0, .int .u8 0, .int .u8 0, .int .u8 0, .int .u8 0, .int .u8 0, .int .u8 0, .int .u8 0] (n * 8)) 49) = VM := ⟨_, rfl⟩
  rw [hVM] at hmk hg' hVm
  have HCP : Hid (Copy (H + 5) n 0 zs VM) := ⟨g', hg', fun i j hi => absurd hi (Nat.not_lt_zero _)⟩
  have HVM : Hid (Below (H + 5) V1 VM) := hVm
  have l1 : decide (65536 < (n : Int)) = false := decide_eq_false (by omega)
  clear hg' hVm
  clear hG hC hB hX hVV hne
  go_enter Tryd.func3, Tryd.ntmps3
  go_wp2
  go_loopw [25] (fun i wr => ∃ k : Nat, k ≤ n ∧ i = .int .i64 k ∧ Copy (H + 5) n k zs wr ∧ Below (H + 5) V1 wr) (fun i _ => n - (intOf i).toNat)
  case atStart => exact ⟨0, Nat.zero_le _, rfl, HCP.out, HVM.out⟩
  case round =>
    obtain ⟨k, hk, rfl, hcp, hnx⟩ := hrel
    by_cases hlt : k < n
    · obtain ⟨b, off, rfl, hrow⟩ := (HC1.out.below hnx (by omega)) (by omega)
      have q0 := hrow.cell k 0 hlt (by omega)
      rw [Nat.add_zero] at q0
      have q1 := hrow.cell k 1 hlt (by omega)
      have q2 := hrow.cell k 2 hlt (by omega)
      have q3 := hrow.cell k 3 hlt (by omega)
      have q4 := hrow.cell k 4 hlt (by omega)
      have q5 := hrow.cell k 5 hlt (by omega)
      have q6 := hrow.cell k 6 hlt (by omega)
      have q7 := hrow.cell k 7 hlt (by omega)
      obtain ⟨x0, hx0⟩ : ∃ x, x = cB zs k 0 := ⟨_, rfl⟩
      obtain ⟨x1, hx1⟩ : ∃ x, x = cB zs k 1 := ⟨_, rfl⟩
      obtain ⟨x2, hx2⟩ : ∃ x, x = cB zs k 2 := ⟨_, rfl⟩
      obtain ⟨x3, hx3⟩ : ∃ x, x = cB zs k 3 := ⟨_, rfl⟩
      obtain ⟨x4, hx4⟩ : ∃ x, x = cB zs k 4 := ⟨_, rfl⟩
      obtain ⟨x5, hx5⟩ : ∃ x, x = cB zs k 5 := ⟨_, rfl⟩
      obtain ⟨x6, hx6⟩ : ∃ x, x = cB zs k 6 := ⟨_, rfl⟩
      obtain ⟨x7, hx7⟩ : ∃ x, x = cB zs k 7 := ⟨_, rfl⟩
      rw [← hx0] at q0
      rw [← hx1] at q1
      rw [← hx2] at q2
      rw [← hx3] at q3
      rw [← hx4] at q4
      rw [← hx5] at q5
      rw [← hx6] at q6
      rw [← hx7] at q7
      obtain ⟨gg, hgg, hgz⟩ := hcp
      obtain ⟨y0, r0⟩ : ∃ y, wr.cell? ⟨H + 5, k * 8, none⟩ = some y := ⟨_, hgg.cell (by omega)⟩
      have z0 := hgg.frozen (k * 8)
      obtain ⟨y1, r1⟩ : ∃ y, wr.cell? ⟨H + 5, k * 8 + 1, none⟩ = some y := ⟨_, hgg.cell (by omega)⟩
      have z1 := hgg.frozen (k * 8 + 1)
      obtain ⟨y2, r2⟩ : ∃ y, wr.cell? ⟨H + 5, k * 8 + 2, none⟩ = some y := ⟨_, hgg.cell (by omega)⟩
      have z2 := hgg.frozen (k * 8 + 2)
      obtain ⟨y3, r3⟩ : ∃ y, wr.cell? ⟨H + 5, k * 8 + 3, none⟩ = some y := ⟨_, hgg.cell (by omega)⟩
      have z3 := hgg.frozen (k * 8 + 3)
      obtain ⟨y4, r4⟩ : ∃ y, wr.cell? ⟨H + 5, k * 8 + 4, none⟩ = some y := ⟨_, hgg.cell (by omega)⟩
      have z4 := hgg.frozen (k * 8 + 4)
      obtain ⟨y5, r5⟩ : ∃ y, wr.cell? ⟨H + 5, k * 8 + 5, none⟩ = some y := ⟨_, hgg.cell (by omega)⟩
      have z5 := hgg.frozen (k * 8 + 5)
      obtain ⟨y6, r6⟩ : ∃ y, wr.cell? ⟨H + 5, k * 8 + 6, none⟩ = some y := ⟨_, hgg.cell (by omega)⟩
      have z6 := hgg.frozen (k * 8 + 6)
      obtain ⟨y7, r7⟩ : ∃ y, wr.cell? ⟨H + 5, k * 8 + 7, none⟩ = some y := ⟨_, hgg.cell (by omega)⟩
      have z7 := hgg.frozen (k * 8 + 7)
      have HST : Hid (Copy (H + 5) n (k + 1) zs _) := Copy.step hgg hgz x0 x1 x2 x3 x4 x5 x6 x7 hx0 hx1 hx2 hx3 hx4 hx5 hx6 hx7
      clear hgg hgz hrow HCP HVM hx0 hx1 hx2 hx3 hx4 hx5 hx6 hx7 kd0 kd1 kd2 kd3 kd4 kd5 kd6 kd7 ke0 ke1 ke2 ke3 ke4 ke5 ke6 ke7 ke8 ke9 km0 km1 km2 km3 km4 km5 kg0 kg1 kg2 kg3 kg4 kg5 kg6 kg7 kg8 kg9 kg10 kg11 kg12 kg13 kg14 kg15 hV hV1 hK hR hRs hsr hmk hVM
      go_wp2
      go_roundw
      case rel => exact ⟨k + 1, by omega, by go_num, HST.out, ((((((((hnx.setCell (p := ⟨H + 5, k * 8, none⟩) (Nat.le_refl _) _).setCell (p := ⟨H + 5, k * 8 + 1, none⟩) (Nat.le_refl _) _).setCell (p := ⟨H + 5, k * 8 + 2, none⟩) (Nat.le_refl _) _).setCell (p := ⟨H + 5, k * 8 + 3, none⟩) (Nat.le_refl _) _).setCell (p := ⟨H + 5, k * 8 + 4, none⟩) (Nat.le_refl _) _).setCell (p := ⟨H + 5, k * 8 + 5, none⟩) (Nat.le_refl _) _).setCell (p := ⟨H + 5, k * 8 + 6, none⟩) (Nat.le_refl _) _).setCell (p := ⟨H + 5, k * 8 + 7, none⟩) (Nat.le_refl _) _)⟩
      case measure => simp [intOf]; omega
    · have hke : k = n := by omega
      subst hke
      obtain ⟨S2, hS2⟩ : ∃ S2, wr.heap.size = S2 := ⟨_, rfl⟩
      have hS3 : H + 5 ≤ S2 := by rw [← hS2, ← hK1]; exact hnx.size
      have HX3 := hid_of (HX1.out.below hnx (by omega))
      have HRT3 := hid_of (HRT.out.below hnx (by omega))
      have HG3 := hid_of (HG1.out.below hnx (by omega))
      have HC3 := hid_of (HC1.out.below hnx (by omega))
      have HB3 := hid_of (HB1.out.trans (hnx.mono (by omega)))
      have HC4 : Hid (Com (some ⟨H + 5, 0, none⟩) k zs wr) := fun _ => ⟨_, _, rfl, hcp.rows hbd⟩
      clear hcp HX1 HRT HG1 HC1 HB1 HCP HVM kd0 kd1 kd2 kd3 kd4 kd5 kd6 kd7 ke0 ke1 ke2 ke3 ke4 ke5 ke6 ke7 ke8 ke9 km0 km1 km2 km3 km4 km5 kg0 kg1 kg2 kg3 kg4 kg5 kg6 kg7 kg8 kg9 kg10 kg11 kg12 kg13 kg14 kg15 hV hV1 hK hR hRs hsr hmk hVM
      go_wp2_with fail
      refine (call_seven H (H + 4) S2 typ d0 d1 d2 d3 d4 d5 d6 d7 e0 e1 e2 e3 e4 e5 e6 e7 e8 e9 tag m0 m1 m2 m3 m4 m5 g0 g1 g2 g3 g4 g5 g6 g7 g8 g9 g10 g11 g12 g13 g14 g15 0 label 0 0 none ad (some ⟨H + 5, 0, none⟩) k cap k zs false a4 a6 w wr hS2 (by omega) HX3.out HRT3.out HG3.out HB3.out HC3.out HC4.out (by omega) hbd (fun h => absurd h t5) (fun h => absurd h t5)).mono ?_
      rintro e w2 ⟨got, rfl, h15, hX2, h8⟩
      have H8 := hid_of h8
      clear HX3 HRT3 HG3 HC3 HB3 HC4 hnx hbd hS2 hS3 h8
      obtain ⟨kd0, kd1, kd2, kd3, kd4, kd5, kd6, kd7, ke0, ke1, ke2, ke3, ke4, ke5, ke6, ke7, ke8, ke9, km0, km1, km2, km3, km4, km5, kg0, kg1, kg2, kg3, kg4, kg5, kg6, kg7, kg8, kg9, kg10, kg11, kg12, kg13, kg14, kg15⟩ := hX2.all
      by_cases h5 : 5 < e0
      · have g15 : (got == 15) = true := by simp [h15.2 h5]
        have d5 : decide (5 < e0) = true := decide_eq_true h5
        clear h15
        go_wp2_with fail
        refine H8.out.mono ?_
        rintro e w3 ⟨rfl, hb3, k0⟩
        go_wp2
        go_ret
        exact ⟨rfl, by rw [hH]; exact hb3⟩
      · have g15 : (got == 15) = false := by simp [mt h15.1 h5]
        have d5 : decide (5 < e0) = false := decide_eq_false h5
        clear h15
        go_wp2_with fail
        refine H8.out.mono ?_
        rintro e w3 ⟨rfl, hb3, k0⟩
        go_wp2
        go_ret
        exact ⟨rfl, by rw [hH]; exact hb3⟩

end Go.Proofs.Qxb6003815aDoor
