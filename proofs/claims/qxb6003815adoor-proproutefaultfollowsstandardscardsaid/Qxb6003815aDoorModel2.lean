/-
  'zzRouteFaultModel': an IP Prefix route.
-/
import Derived.Test.Qxb6003815aDoorModel
import Derived.Test.Qxb6003815aDoorFault3
namespace Go.Proofs.Qxb6003815aDoor
open Go.ChangeShapes Go.WideShapes Go.ChangeAt Go.RowKit
set_option linter.unusedVariables false

theorem zeroB_take_succ (l : List Int) (k : Nat) (h : k < l.length) : zeroB (l.take (k + 1)) = (zeroB (l.take k) && (l.getD k 0 == 0)) := by
  unfold zeroB
  rw [List.take_succ_eq_append_getElem h, List.all_append]
  have e : l.getD k 0 = l[k] := by simp [List.getD, h]
  rw [e, List.all_cons, List.all_nil, Bool.and_true]

/-- The communities that a slice leads to. -/
def Com (ad : Option Addr) (n : Nat) (zs : List Int) (w : World) : Prop := 0 < n → ∃ b off, ad = some ⟨b, off, none⟩ ∧ Rows8 b off n zs w
theorem Com.below {ad : Option Addr} {n B : Nat} {zs : List Int} {w w' : World} (h : Com ad n zs w) (hb : Below B w w') (hB : w.heap.size ≤ B) : Com ad n zs w' :=
  fun hn => by obtain ⟨b, off, e, r⟩ := h hn; exact ⟨b, off, e, r.below hb hB⟩

theorem anyK_succ (zs : List Int) (k : Int) (i : Nat) : anyK zs k (i + 1) = (anyK zs k i || (kindOf (cB zs i 0) (cB zs i 1) == k)) := rfl

set_option maxRecDepth 100000 in
set_option maxHeartbeats 6400000 in
theorem model_pfx4 (e0 e1 e2 e3 e4 e5 e6 e7 e8 e9 tag label g0 g1 g2 g3 g4 g5 g6 g7 g8 g9 g10 g11 g12 g13 g14 g15 : Int) (ad : Option Addr) (n cap : Nat) (zs : List Int) (w : World) (h5 : e0 ≤ 5) (hn : n ≤ 65536) (hC : Com ad n zs w) :
    Calls Tryd.prog 8 #[.int .u8 5, .agg #[.int .u8 e0, .int .u8 e1, .int .u8 e2, .int .u8 e3, .int .u8 e4, .int .u8 e5, .int .u8 e6, .int .u8 e7, .int .u8 e8, .int .u8 e9], .int .u32 tag, .int .u32 label, .int .u8 4, .agg #[.int .u8 g0, .int .u8 g1, .int .u8 g2, .int .u8 g3, .int .u8 g4, .int .u8 g5, .int .u8 g6, .int .u8 g7, .int .u8 g8, .int .u8 g9, .int .u8 g10, .int .u8 g11, .int .u8 g12, .int .u8 g13, .int .u8 g14, .int .u8 g15], .slice ad n cap] w fun e w' => e = .returned (.int .u8 (pfxOf label (zeroB [e0, e1, e2, e3, e4, e5, e6, e7, e8, e9]) (zeroB ([g0, g1, g2, g3, g4, g5, g6, g7, g8, g9, g10, g11, g12, g13, g14, g15].take 4)) zs n)) ∧ Below w.heap.size w w' := by
  have hB0 : Below w.heap.size w ((w.alloc (.cells #[.int .u8 e0, .int .u8 e1, .int .u8 e2, .int .u8 e3, .int .u8 e4, .int .u8 e5, .int .u8 e6, .int .u8 e7, .int .u8 e8, .int .u8 e9] 23)).alloc (.cells #[.int .u8 g0, .int .u8 g1, .int .u8 g2, .int .u8 g3, .int .u8 g4, .int .u8 g5, .int .u8 g6, .int .u8 g7, .int .u8 g8, .int .u8 g9, .int .u8 g10, .int .u8 g11, .int .u8 g12, .int .u8 g13, .int .u8 g14, .int .u8 g15] 26)) := ((Below.refl _ _).alloc (Nat.le_refl _) _).alloc (by simp) _
  have hZ : Hid (∀ V, Calls Tryd.prog 4 #[.agg #[.int .u8 e0, .int .u8 e1, .int .u8 e2, .int .u8 e3, .int .u8 e4, .int .u8 e5, .int .u8 e6, .int .u8 e7, .int .u8 e8, .int .u8 e9]] V fun e V' => e = .returned (.bool (zeroB [e0, e1, e2, e3, e4, e5, e6, e7, e8, e9])) ∧ Below V.heap.size V V') := fun V => zeroESI_any e0 e1 e2 e3 e4 e5 e6 e7 e8 e9 V
  obtain ⟨z, hz⟩ : ∃ z, z = zeroB [e0, e1, e2, e3, e4, e5, e6, e7, e8, e9] := ⟨_, rfl⟩
  rw [← hz] at hZ ⊢
  obtain ⟨L, hL⟩ : ∃ L, L = [g0, g1, g2, g3, g4, g5, g6, g7, g8, g9, g10, g11, g12, g13, g14, g15] := ⟨_, rfl⟩
  have hLl : L.length = 16 := by rw [hL]; rfl
  have hgc : ∀ k, k < 16 → ((w.alloc (.cells #[.int .u8 e0, .int .u8 e1, .int .u8 e2, .int .u8 e3, .int .u8 e4, .int .u8 e5, .int .u8 e6, .int .u8 e7, .int .u8 e8, .int .u8 e9] 23)).alloc (.cells #[.int .u8 g0, .int .u8 g1, .int .u8 g2, .int .u8 g3, .int .u8 g4, .int .u8 g5, .int .u8 g6, .int .u8 g7, .int .u8 g8, .int .u8 g9, .int .u8 g10, .int .u8 g11, .int .u8 g12, .int .u8 g13, .int .u8 g14, .int .u8 g15] 26)).cell? ⟨w.heap.size + 1, k, none⟩ = some (.int .u8 (L.getD k 0)) := by
    intro k hk
    rw [World.cell?_alloc_at _ _ _ _ (by simp), hL]
    rcases (show k = 0 ∨ k = 1 ∨ k = 2 ∨ k = 3 ∨ k = 4 ∨ k = 5 ∨ k = 6 ∨ k = 7 ∨ k = 8 ∨ k = 9 ∨ k = 10 ∨ k = 11 ∨ k = 12 ∨ k = 13 ∨ k = 14 ∨ k = 15 by omega) with rfl | rfl | rfl | rfl | rfl | rfl | rfl | rfl | rfl | rfl | rfl | rfl | rfl | rfl | rfl | rfl <;> rfl
  rw [← hL]
  have HL : Hid (L.length = 16) := hLl
  clear hz hL hLl
  go_enter Tryd.func8, Tryd.ntmps8
  go_wp2_with fail
  refine (hZ.out _).mono ?_
  rintro e w1 ⟨rfl, hb⟩
  have hbw : Below w.heap.size w w1 := hB0.trans (hb.mono (by simp; omega))
  have hb' : Below (w.heap.size + 2) ((w.alloc (.cells #[.int .u8 e0, .int .u8 e1, .int .u8 e2, .int .u8 e3, .int .u8 e4, .int .u8 e5, .int .u8 e6, .int .u8 e7, .int .u8 e8, .int .u8 e9] 23)).alloc (.cells #[.int .u8 g0, .int .u8 g1, .int .u8 g2, .int .u8 g3, .int .u8 g4, .int .u8 g5, .int .u8 g6, .int .u8 g7, .int .u8 g8, .int .u8 g9, .int .u8 g10, .int .u8 g11, .int .u8 g12, .int .u8 g13, .int .u8 g14, .int .u8 g15] 26)) w1 := by simpa using hb
  have hgc1 : Hid (∀ k, k < 16 → w1.cell? ⟨w.heap.size + 1, k, none⟩ = some (.int .u8 (L.getD k 0))) := fun k hk => (hb'.cell (p := ⟨w.heap.size + 1, k, none⟩) (by show w.heap.size + 1 < w.heap.size + 2; omega)).trans (hgc k hk)
  have hC1 := hC.below hbw (Nat.le_refl _)
  clear hb hb' hB0 hgc hC hZ
  go_wp2
  go_loop [17, 18] (fun zb i => ∃ k : Nat, k ≤ 4 ∧ i = .int .i64 k ∧ zb = .bool (zeroB (L.take k))) (fun _ i => 4 - (intOf i).toNat)
  case atStart => exact ⟨0, Nat.zero_le _, rfl, rfl⟩
  case round =>
    obtain ⟨k, hk, rfl, rfl⟩ := hrel
    by_cases hlt : k < 4
    · have hck := hgc1.out k (by omega)
      have HS : Hid (zeroB (L.take (k + 1)) = (zeroB (L.take k) && (L.getD k 0 == 0))) := zeroB_take_succ L k (by rw [HL.out]; omega)
      obtain ⟨x, hx⟩ : ∃ x, x = L.getD k 0 := ⟨_, rfl⟩
      rw [← hx] at hck HS
      clear hx hgc1 hC1
      by_cases h0 : x = 0
      · have h0' : (x != 0) = false := by simp [h0]
        have HX : Hid (x = 0) := h0
        clear h0
        go_wp2
        go_round
        case rel => exact ⟨k + 1, by omega, by go_num, by rw [HS.out, HX.out]; simp⟩
        case measure => simp [intOf]; omega
      · have h0' : (x != 0) = true := by simp [h0]
        have HX : Hid ((x == 0) = false) := by show _ = _; simp [h0]
        clear h0
        go_wp2
        go_round
        case rel => exact ⟨k + 1, by omega, by go_num, by rw [HS.out, HX.out]; simp⟩
        case measure => simp [intOf]; omega
    · have hke : k = 4 := by omega
      subst hke
      obtain ⟨u, hu⟩ : ∃ u, u = zeroB (L.take 4) := ⟨_, rfl⟩
      rw [← hu]
      have HU : Hid (zeroB (L.take 4) = u) := hu.symm
      clear hu hgc1
      by_cases h16 : z = false ∧ u = false
      · obtain ⟨rfl, rfl⟩ := h16
        clear hC1
        go_wp2
        go_ret
        exact ⟨by rw [HU.out]; rfl, hbw⟩
      · have hzu : z = true ∨ u = true := by cases z <;> cases u <;> simp_all
        have H16 : Hid (¬ (z = false ∧ u = false)) := h16
        have hd16 : (!z && !u) = false := by cases z <;> cases u <;> simp_all
        have hbb : z = false → u = true := by cases z <;> cases u <;> simp_all
        clear h16 hzu
        cases z
        all_goals
          cases u
          try exact absurd (hbb rfl) (by simp)
        all_goals
          clear hbb
          go_wp2
          go_loop [19, 20] (fun rm i => ∃ k : Nat, k ≤ n ∧ i = .int .i64 k ∧ rm = .bool (anyK zs 7 k)) (fun _ i => n - (intOf i).toNat)
          case atStart => exact ⟨0, Nat.zero_le _, rfl, rfl⟩
          case round =>
            obtain ⟨k, hk2, rfl, rfl⟩ := hrel
            by_cases hlt2 : k < n
            · obtain ⟨b, off, rfl, hrow⟩ := hC1 (by omega)
              have q0 := hrow.cell k 0 hlt2 (by omega)
              rw [Nat.add_zero] at q0
              have q1 := hrow.cell k 1 hlt2 (by omega)
              have b0 := hrow.bd k 0
              have b1 := hrow.bd k 1
              have HA : Hid (anyK zs 7 (k + 1) = (anyK zs 7 k || (kindOf (cB zs k 0) (cB zs k 1) == 7))) := anyK_succ zs 7 k
              obtain ⟨x0, hx0⟩ : ∃ x, x = cB zs k 0 := ⟨_, rfl⟩
              obtain ⟨x1, hx1⟩ : ∃ x, x = cB zs k 1 := ⟨_, rfl⟩
              rw [← hx0] at q0 b0 HA
              rw [← hx1] at q1 b1 HA
              obtain ⟨b00, b01⟩ := b0
              obtain ⟨b10, b11⟩ := b1
              clear hx0 hx1 hrow hC1
              by_cases c6 : x0 = 6
              · have f6 : (x0 == 6) = true := by simp [c6]
                by_cases c3 : x1 = 3
                · have f3 : (x1 == 3) = true := by simp [c3]
                  have HK : Hid (kindOf x0 x1 = 7) := (kind7 b00 b10).2 ⟨c6, c3⟩
                  clear c6 c3
                  go_wp2
                  go_round
                  case rel => exact ⟨k + 1, by omega, by go_num, by rw [HA.out, HK.out]; simp⟩
                  case measure => simp [intOf]; omega
                · have f3 : (x1 == 3) = false := by simp [c3]
                  have HK : Hid ((kindOf x0 x1 == 7) = false) := by show _ = _; simpa using fun h => c3 ((kind7 b00 b10).1 h).2
                  clear c6 c3
                  go_wp2
                  go_round
                  case rel => exact ⟨k + 1, by omega, by go_num, by rw [HA.out, HK.out]; simp⟩
                  case measure => simp [intOf]; omega
              · have f6 : (x0 == 6) = false := by simp [c6]
                have HK : Hid ((kindOf x0 x1 == 7) = false) := by show _ = _; simpa using fun h => c6 ((kind7 b00 b10).1 h).1
                clear c6
                go_wp2
                go_round
                case rel => exact ⟨k + 1, by omega, by go_num, by rw [HA.out, HK.out]; simp⟩
                case measure => simp [intOf]; omega
            · have hke2 : k = n := by omega
              subst hke2
              obtain ⟨rm, hrm⟩ : ∃ r, r = anyK zs 7 k := ⟨_, rfl⟩
              rw [← hrm]
              have HRM : Hid (anyK zs 7 k = rm) := hrm.symm
              clear hrm hC1
              by_cases hl : label = 0
              · have ql : (label == 0) = true := by simp [hl]
                have HLB : Hid (label = 0) := hl
                clear hl
                cases rm
                all_goals
                  go_wp2
                  go_ret
                  exact ⟨by unfold pfxOf; rw [HU.out, HRM.out, HLB.out]; rfl, hbw⟩
              · have ql : (label == 0) = false := by simp [hl]
                have HLB : Hid (¬ label = 0) := hl
                clear hl
                go_wp2
                go_ret
                exact ⟨by unfold pfxOf; rw [HU.out]; simp [HLB.out], hbw⟩

set_option maxRecDepth 100000 in
set_option maxHeartbeats 6400000 in
theorem model_pfx16 (e0 e1 e2 e3 e4 e5 e6 e7 e8 e9 tag label g0 g1 g2 g3 g4 g5 g6 g7 g8 g9 g10 g11 g12 g13 g14 g15 : Int) (ad : Option Addr) (n cap : Nat) (zs : List Int) (w : World) (h5 : e0 ≤ 5) (hn : n ≤ 65536) (hC : Com ad n zs w) :
    Calls Tryd.prog 8 #[.int .u8 5, .agg #[.int .u8 e0, .int .u8 e1, .int .u8 e2, .int .u8 e3, .int .u8 e4, .int .u8 e5, .int .u8 e6, .int .u8 e7, .int .u8 e8, .int .u8 e9], .int .u32 tag, .int .u32 label, .int .u8 16, .agg #[.int .u8 g0, .int .u8 g1, .int .u8 g2, .int .u8 g3, .int .u8 g4, .int .u8 g5, .int .u8 g6, .int .u8 g7, .int .u8 g8, .int .u8 g9, .int .u8 g10, .int .u8 g11, .int .u8 g12, .int .u8 g13, .int .u8 g14, .int .u8 g15], .slice ad n cap] w fun e w' => e = .returned (.int .u8 (pfxOf label (zeroB [e0, e1, e2, e3, e4, e5, e6, e7, e8, e9]) (zeroB ([g0, g1, g2, g3, g4, g5, g6, g7, g8, g9, g10, g11, g12, g13, g14, g15].take 16)) zs n)) ∧ Below w.heap.size w w' := by
  have hB0 : Below w.heap.size w ((w.alloc (.cells #[.int .u8 e0, .int .u8 e1, .int .u8 e2, .int .u8 e3, .int .u8 e4, .int .u8 e5, .int .u8 e6, .int .u8 e7, .int .u8 e8, .int .u8 e9] 23)).alloc (.cells #[.int .u8 g0, .int .u8 g1, .int .u8 g2, .int .u8 g3, .int .u8 g4, .int .u8 g5, .int .u8 g6, .int .u8 g7, .int .u8 g8, .int .u8 g9, .int .u8 g10, .int .u8 g11, .int .u8 g12, .int .u8 g13, .int .u8 g14, .int .u8 g15] 26)) := ((Below.refl _ _).alloc (Nat.le_refl _) _).alloc (by simp) _
  have hZ : Hid (∀ V, Calls Tryd.prog 4 #[.agg #[.int .u8 e0, .int .u8 e1, .int .u8 e2, .int .u8 e3, .int .u8 e4, .int .u8 e5, .int .u8 e6, .int .u8 e7, .int .u8 e8, .int .u8 e9]] V fun e V' => e = .returned (.bool (zeroB [e0, e1, e2, e3, e4, e5, e6, e7, e8, e9])) ∧ Below V.heap.size V V') := fun V => zeroESI_any e0 e1 e2 e3 e4 e5 e6 e7 e8 e9 V
  obtain ⟨z, hz⟩ : ∃ z, z = zeroB [e0, e1, e2, e3, e4, e5, e6, e7, e8, e9] := ⟨_, rfl⟩
  rw [← hz] at hZ ⊢
  obtain ⟨L, hL⟩ : ∃ L, L = [g0, g1, g2, g3, g4, g5, g6, g7, g8, g9, g10, g11, g12, g13, g14, g15] := ⟨_, rfl⟩
  have hLl : L.length = 16 := by rw [hL]; rfl
  have hgc : ∀ k, k < 16 → ((w.alloc (.cells #[.int .u8 e0, .int .u8 e1, .int .u8 e2, .int .u8 e3, .int .u8 e4, .int .u8 e5, .int .u8 e6, .int .u8 e7, .int .u8 e8, .int .u8 e9] 23)).alloc (.cells #[.int .u8 g0, .int .u8 g1, .int .u8 g2, .int .u8 g3, .int .u8 g4, .int .u8 g5, .int .u8 g6, .int .u8 g7, .int .u8 g8, .int .u8 g9, .int .u8 g10, .int .u8 g11, .int .u8 g12, .int .u8 g13, .int .u8 g14, .int .u8 g15] 26)).cell? ⟨w.heap.size + 1, k, none⟩ = some (.int .u8 (L.getD k 0)) := by
    intro k hk
    rw [World.cell?_alloc_at _ _ _ _ (by simp), hL]
    rcases (show k = 0 ∨ k = 1 ∨ k = 2 ∨ k = 3 ∨ k = 4 ∨ k = 5 ∨ k = 6 ∨ k = 7 ∨ k = 8 ∨ k = 9 ∨ k = 10 ∨ k = 11 ∨ k = 12 ∨ k = 13 ∨ k = 14 ∨ k = 15 by omega) with rfl | rfl | rfl | rfl | rfl | rfl | rfl | rfl | rfl | rfl | rfl | rfl | rfl | rfl | rfl | rfl <;> rfl
  rw [← hL]
  have HL : Hid (L.length = 16) := hLl
  clear hz hL hLl
  go_enter Tryd.func8, Tryd.ntmps8
  go_wp2_with fail
  refine (hZ.out _).mono ?_
  rintro e w1 ⟨rfl, hb⟩
  have hbw : Below w.heap.size w w1 := hB0.trans (hb.mono (by simp; omega))
  have hb' : Below (w.heap.size + 2) ((w.alloc (.cells #[.int .u8 e0, .int .u8 e1, .int .u8 e2, .int .u8 e3, .int .u8 e4, .int .u8 e5, .int .u8 e6, .int .u8 e7, .int .u8 e8, .int .u8 e9] 23)).alloc (.cells #[.int .u8 g0, .int .u8 g1, .int .u8 g2, .int .u8 g3, .int .u8 g4, .int .u8 g5, .int .u8 g6, .int .u8 g7, .int .u8 g8, .int .u8 g9, .int .u8 g10, .int .u8 g11, .int .u8 g12, .int .u8 g13, .int .u8 g14, .int .u8 g15] 26)) w1 := by simpa using hb
  have hgc1 : Hid (∀ k, k < 16 → w1.cell? ⟨w.heap.size + 1, k, none⟩ = some (.int .u8 (L.getD k 0))) := fun k hk => (hb'.cell (p := ⟨w.heap.size + 1, k, none⟩) (by show w.heap.size + 1 < w.heap.size + 2; omega)).trans (hgc k hk)
  have hC1 := hC.below hbw (Nat.le_refl _)
  clear hb hb' hB0 hgc hC hZ
  go_wp2
  go_loop [17, 18] (fun zb i => ∃ k : Nat, k ≤ 16 ∧ i = .int .i64 k ∧ zb = .bool (zeroB (L.take k))) (fun _ i => 16 - (intOf i).toNat)
  case atStart => exact ⟨0, Nat.zero_le _, rfl, rfl⟩
  case round =>
    obtain ⟨k, hk, rfl, rfl⟩ := hrel
    by_cases hlt : k < 16
    · have hck := hgc1.out k (by omega)
      have HS : Hid (zeroB (L.take (k + 1)) = (zeroB (L.take k) && (L.getD k 0 == 0))) := zeroB_take_succ L k (by rw [HL.out]; omega)
      obtain ⟨x, hx⟩ : ∃ x, x = L.getD k 0 := ⟨_, rfl⟩
      rw [← hx] at hck HS
      clear hx hgc1 hC1
      by_cases h0 : x = 0
      · have h0' : (x != 0) = false := by simp [h0]
        have HX : Hid (x = 0) := h0
        clear h0
        go_wp2
        go_round
        case rel => exact ⟨k + 1, by omega, by go_num, by rw [HS.out, HX.out]; simp⟩
        case measure => simp [intOf]; omega
      · have h0' : (x != 0) = true := by simp [h0]
        have HX : Hid ((x == 0) = false) := by show _ = _; simp [h0]
        clear h0
        go_wp2
        go_round
        case rel => exact ⟨k + 1, by omega, by go_num, by rw [HS.out, HX.out]; simp⟩
        case measure => simp [intOf]; omega
    · have hke : k = 16 := by omega
      subst hke
      obtain ⟨u, hu⟩ : ∃ u, u = zeroB (L.take 16) := ⟨_, rfl⟩
      rw [← hu]
      have HU : Hid (zeroB (L.take 16) = u) := hu.symm
      clear hu hgc1
      by_cases h16 : z = false ∧ u = false
      · obtain ⟨rfl, rfl⟩ := h16
        clear hC1
        go_wp2
        go_ret
        exact ⟨by rw [HU.out]; rfl, hbw⟩
      · have hzu : z = true ∨ u = true := by cases z <;> cases u <;> simp_all
        have H16 : Hid (¬ (z = false ∧ u = false)) := h16
        have hd16 : (!z && !u) = false := by cases z <;> cases u <;> simp_all
        have hbb : z = false → u = true := by cases z <;> cases u <;> simp_all
        clear h16 hzu
        cases z
        all_goals
          cases u
          try exact absurd (hbb rfl) (by simp)
        all_goals
          clear hbb
          go_wp2
          go_loop [19, 20] (fun rm i => ∃ k : Nat, k ≤ n ∧ i = .int .i64 k ∧ rm = .bool (anyK zs 7 k)) (fun _ i => n - (intOf i).toNat)
          case atStart => exact ⟨0, Nat.zero_le _, rfl, rfl⟩
          case round =>
            obtain ⟨k, hk2, rfl, rfl⟩ := hrel
            by_cases hlt2 : k < n
            · obtain ⟨b, off, rfl, hrow⟩ := hC1 (by omega)
              have q0 := hrow.cell k 0 hlt2 (by omega)
              rw [Nat.add_zero] at q0
              have q1 := hrow.cell k 1 hlt2 (by omega)
              have b0 := hrow.bd k 0
              have b1 := hrow.bd k 1
              have HA : Hid (anyK zs 7 (k + 1) = (anyK zs 7 k || (kindOf (cB zs k 0) (cB zs k 1) == 7))) := anyK_succ zs 7 k
              obtain ⟨x0, hx0⟩ : ∃ x, x = cB zs k 0 := ⟨_, rfl⟩
              obtain ⟨x1, hx1⟩ : ∃ x, x = cB zs k 1 := ⟨_, rfl⟩
              rw [← hx0] at q0 b0 HA
              rw [← hx1] at q1 b1 HA
              obtain ⟨b00, b01⟩ := b0
              obtain ⟨b10, b11⟩ := b1
              clear hx0 hx1 hrow hC1
              by_cases c6 : x0 = 6
              · have f6 : (x0 == 6) = true := by simp [c6]
                by_cases c3 : x1 = 3
                · have f3 : (x1 == 3) = true := by simp [c3]
                  have HK : Hid (kindOf x0 x1 = 7) := (kind7 b00 b10).2 ⟨c6, c3⟩
                  clear c6 c3
                  go_wp2
                  go_round
                  case rel => exact ⟨k + 1, by omega, by go_num, by rw [HA.out, HK.out]; simp⟩
                  case measure => simp [intOf]; omega
                · have f3 : (x1 == 3) = false := by simp [c3]
                  have HK : Hid ((kindOf x0 x1 == 7) = false) := by show _ = _; simpa using fun h => c3 ((kind7 b00 b10).1 h).2
                  clear c6 c3
                  go_wp2
                  go_round
                  case rel => exact ⟨k + 1, by omega, by go_num, by rw [HA.out, HK.out]; simp⟩
                  case measure => simp [intOf]; omega
              · have f6 : (x0 == 6) = false := by simp [c6]
                have HK : Hid ((kindOf x0 x1 == 7) = false) := by show _ = _; simpa using fun h => c6 ((kind7 b00 b10).1 h).1
                clear c6
                go_wp2
                go_round
                case rel => exact ⟨k + 1, by omega, by go_num, by rw [HA.out, HK.out]; simp⟩
                case measure => simp [intOf]; omega
            · have hke2 : k = n := by omega
              subst hke2
              obtain ⟨rm, hrm⟩ : ∃ r, r = anyK zs 7 k := ⟨_, rfl⟩
              rw [← hrm]
              have HRM : Hid (anyK zs 7 k = rm) := hrm.symm
              clear hrm hC1
              by_cases hl : label = 0
              · have ql : (label == 0) = true := by simp [hl]
                have HLB : Hid (label = 0) := hl
                clear hl
                cases rm
                all_goals
                  go_wp2
                  go_ret
                  exact ⟨by unfold pfxOf; rw [HU.out, HRM.out, HLB.out]; rfl, hbw⟩
              · have ql : (label == 0) = false := by simp [hl]
                have HLB : Hid (¬ label = 0) := hl
                clear hl
                go_wp2
                go_ret
                exact ⟨by unfold pfxOf; rw [HU.out]; simp [HLB.out], hbw⟩

end Go.Proofs.Qxb6003815aDoor
