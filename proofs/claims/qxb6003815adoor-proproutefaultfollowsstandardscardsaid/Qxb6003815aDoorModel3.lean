/-
  'zzRouteFaultModel': an Ethernet A-D per ES route.
-/
import Derived.Test.Qxb6003815aDoorModel2
namespace Go.Proofs.Qxb6003815aDoor
open Go.ChangeShapes Go.WideShapes Go.ChangeAt Go.RowKit
set_option linter.unusedVariables false

/-- What the search for the ESI Label community has found. -/
def Found (zs : List Int) (n K k : Nat) (fd : Value) (wr : World) : Prop :=
  (fd = .bool false ∧ NoneOf zs 5 k ∧ wr.heap[K]? = some (.cells #[.int .u8 0, .int .u8 0, .int .u8 0, .int .u8 0, .int .u8 0, .int .u8 0, .int .u8 0, .int .u8 0] 49 (0, 0))) ∨
  (fd = .bool true ∧ ∃ i, i < n ∧ NoneOf zs 5 i ∧ kindOf (cB zs i 0) (cB zs i 1) = 5 ∧ wr.heap[K]? = some (.cells #[.int .u8 (cB zs i 0), .int .u8 (cB zs i 1), .int .u8 (cB zs i 2), .int .u8 (cB zs i 3), .int .u8 (cB zs i 4), .int .u8 (cB zs i 5), .int .u8 (cB zs i 6), .int .u8 (cB zs i 7)] 49 (0, 0)))

theorem blk_set {w : World} {b : Nat} {c : Array Value} {t : TypeId} (h : w.heap[b]? = some (.cells c t (0, 0))) (i : Nat) (v : Value) : (w.setCell ⟨b, i, none⟩ v).heap[b]? = some (.cells (c.setIfInBounds i v) t (0, 0)) := by
  simp [World.setCell, Array.getElem?_modify, h]

theorem any_snoc (l : List Int) (x : Int) (p : Int → Bool) : (l ++ [x]).any p = (l.any p || p x) := by simp

set_option maxRecDepth 100000 in
set_option maxHeartbeats 6400000 in
theorem model_ad (e0 e1 e2 e3 e4 e5 e6 e7 e8 e9 label gl g0 g1 g2 g3 g4 g5 g6 g7 g8 g9 g10 g11 g12 g13 g14 g15 : Int) (ad : Option Addr) (n cap : Nat) (zs : List Int) (w : World) (h5 : e0 ≤ 5) (hn : n ≤ 65536) (hC : Com ad n zs w) (hbd : ∀ i j, 0 ≤ cB zs i j ∧ cB zs i j ≤ 255) :
    Calls Tryd.prog 8 #[.int .u8 1, .agg #[.int .u8 e0, .int .u8 e1, .int .u8 e2, .int .u8 e3, .int .u8 e4, .int .u8 e5, .int .u8 e6, .int .u8 e7, .int .u8 e8, .int .u8 e9], .int .u32 4294967295, .int .u32 label, .int .u8 gl, .agg #[.int .u8 g0, .int .u8 g1, .int .u8 g2, .int .u8 g3, .int .u8 g4, .int .u8 g5, .int .u8 g6, .int .u8 g7, .int .u8 g8, .int .u8 g9, .int .u8 g10, .int .u8 g11, .int .u8 g12, .int .u8 g13, .int .u8 g14, .int .u8 g15], .slice ad n cap] w fun e w' => e = .returned (.int .u8 (eslOf zs n)) ∧ Below w.heap.size w w' := by
  have hB0 : Below w.heap.size w ((w.alloc (.cells #[.int .u8 e0, .int .u8 e1, .int .u8 e2, .int .u8 e3, .int .u8 e4, .int .u8 e5, .int .u8 e6, .int .u8 e7, .int .u8 e8, .int .u8 e9] 23)).alloc (.cells #[.int .u8 g0, .int .u8 g1, .int .u8 g2, .int .u8 g3, .int .u8 g4, .int .u8 g5, .int .u8 g6, .int .u8 g7, .int .u8 g8, .int .u8 g9, .int .u8 g10, .int .u8 g11, .int .u8 g12, .int .u8 g13, .int .u8 g14, .int .u8 g15] 26)) := ((Below.refl _ _).alloc (Nat.le_refl _) _).alloc (by simp) _
  go_enter Tryd.func8, Tryd.ntmps8
  go_wp2_with fail
  refine (zeroESI_any e0 e1 e2 e3 e4 e5 e6 e7 e8 e9 _).mono ?_
  rintro e w1 ⟨rfl, hb⟩
  have hbw : Below w.heap.size w w1 := hB0.trans (hb.mono (by simp; omega))
  have hC1 := hC.below hbw (Nat.le_refl _)
  obtain ⟨K, hK⟩ : ∃ K, w1.heap.size = K := ⟨_, rfl⟩
  have hKw : w.heap.size ≤ K := by rw [← hK]; exact hbw.size
  clear hb hB0
  obtain ⟨z, hz⟩ : ∃ z, z = zeroB [e0, e1, e2, e3, e4, e5, e6, e7, e8, e9] := ⟨_, rfl⟩
  rw [← hz]
  clear hz
  go_wp2
  go_loopw [22, 23] (fun fd i wr => ∃ k : Nat, k ≤ n ∧ i = .int .i64 k ∧ Found zs n K k fd wr ∧ Below K w1 wr) (fun _ i _ => n - (intOf i).toNat)
  case atStart =>
    refine ⟨0, Nat.zero_le _, rfl, Or.inl ⟨rfl, fun j hj => absurd hj (Nat.not_lt_zero _), ?_⟩, (Below.refl _ _).alloc (by omega) _⟩
    rw [← hK]; exact heap_alloc_new _ _
  case round =>
    obtain ⟨k, hk, rfl, hfd, hnx⟩ := hrel
    have hbw2 : Below w.heap.size w wr := hbw.trans (hnx.mono hKw)
    rcases hfd with ⟨rfl, hno, hblk⟩ | ⟨rfl, i, hi, hno, hkd, hblk⟩
    · have HNO : Hid (NoneOf zs 5 k) := hno
      clear hno
      by_cases hlt : k < n
      · obtain ⟨b, off, rfl, hrow⟩ := (hC1.below hnx (by omega)) (by omega)
        have q0 := hrow.cell k 0 hlt (by omega)
        rw [Nat.add_zero] at q0
        have q1 := hrow.cell k 1 hlt (by omega)
        have q2 := hrow.cell k 2 hlt (by omega)
        have q3 := hrow.cell k 3 hlt (by omega)
        have q4 := hrow.cell k 4 hlt (by omega)
        have q5 := hrow.cell k 5 hlt (by omega)
        have q6 := hrow.cell k 6 hlt (by omega)
        have q7 := hrow.cell k 7 hlt (by omega)
        obtain ⟨b00, b01⟩ := hrow.bd k 0
        obtain ⟨b10, b11⟩ := hrow.bd k 1
        obtain ⟨x0, hx0⟩ : ∃ x, x = cB zs k 0 := ⟨_, rfl⟩
        obtain ⟨x1, hx1⟩ : ∃ x, x = cB zs k 1 := ⟨_, rfl⟩
        obtain ⟨x2, hx2⟩ : ∃ x, x = cB zs k 2 := ⟨_, rfl⟩
        obtain ⟨x3, hx3⟩ : ∃ x, x = cB zs k 3 := ⟨_, rfl⟩
        obtain ⟨x4, hx4⟩ : ∃ x, x = cB zs k 4 := ⟨_, rfl⟩
        obtain ⟨x5, hx5⟩ : ∃ x, x = cB zs k 5 := ⟨_, rfl⟩
        obtain ⟨x6, hx6⟩ : ∃ x, x = cB zs k 6 := ⟨_, rfl⟩
        obtain ⟨x7, hx7⟩ : ∃ x, x = cB zs k 7 := ⟨_, rfl⟩
        rw [← hx0] at q0
        rw [← hx1] at q1
        rw [← hx2] at q2
        rw [← hx3] at q3
        rw [← hx4] at q4
        rw [← hx5] at q5
        rw [← hx6] at q6
        rw [← hx7] at q7
        rw [← hx0] at b00 b01
        rw [← hx1] at b10 b11
        have HX : Hid (kindOf x0 x1 = kindOf (cB zs k 0) (cB zs k 1)) := by show _ = _; rw [hx0, hx1]
        have HC : Hid ((#[.int .u8 x0, .int .u8 x1, .int .u8 x2, .int .u8 x3, .int .u8 x4, .int .u8 x5, .int .u8 x6, .int .u8 x7] : Array Value) = #[.int .u8 (cB zs k 0), .int .u8 (cB zs k 1), .int .u8 (cB zs k 2), .int .u8 (cB zs k 3), .int .u8 (cB zs k 4), .int .u8 (cB zs k 5), .int .u8 (cB zs k 6), .int .u8 (cB zs k 7)]) := by show _ = _; rw [hx0, hx1, hx2, hx3, hx4, hx5, hx6, hx7]
        obtain ⟨r0, r1, r2, r3, r4, r5, r6, r7⟩ := cells8 hblk
        have z0 := free_of_block hblk 0
        have z1 := free_of_block hblk 1
        have z2 := free_of_block hblk 2
        have z3 := free_of_block hblk 3
        have z4 := free_of_block hblk 4
        have z5 := free_of_block hblk 5
        have z6 := free_of_block hblk 6
        have z7 := free_of_block hblk 7
        have hset : ((((((((wr.setCell ⟨K, 0, none⟩ (.int .u8 x0)).setCell ⟨K, 1, none⟩ (.int .u8 x1)).setCell ⟨K, 2, none⟩ (.int .u8 x2)).setCell ⟨K, 3, none⟩ (.int .u8 x3)).setCell ⟨K, 4, none⟩ (.int .u8 x4)).setCell ⟨K, 5, none⟩ (.int .u8 x5)).setCell ⟨K, 6, none⟩ (.int .u8 x6)).setCell ⟨K, 7, none⟩ (.int .u8 x7)).heap[K]? = some (.cells #[.int .u8 x0, .int .u8 x1, .int .u8 x2, .int .u8 x3, .int .u8 x4, .int .u8 x5, .int .u8 x6, .int .u8 x7] 49 (0, 0)) := by
          have s0 := blk_set hblk 0 (.int .u8 x0)
          have s1 := blk_set s0 1 (.int .u8 x1)
          have s2 := blk_set s1 2 (.int .u8 x2)
          have s3 := blk_set s2 3 (.int .u8 x3)
          have s4 := blk_set s3 4 (.int .u8 x4)
          have s5 := blk_set s4 5 (.int .u8 x5)
          have s6 := blk_set s5 6 (.int .u8 x6)
          have s7 := blk_set s6 7 (.int .u8 x7)
          simpa using s7
        have HS : Hid (((((((((wr.setCell ⟨K, 0, none⟩ (.int .u8 x0)).setCell ⟨K, 1, none⟩ (.int .u8 x1)).setCell ⟨K, 2, none⟩ (.int .u8 x2)).setCell ⟨K, 3, none⟩ (.int .u8 x3)).setCell ⟨K, 4, none⟩ (.int .u8 x4)).setCell ⟨K, 5, none⟩ (.int .u8 x5)).setCell ⟨K, 6, none⟩ (.int .u8 x6)).setCell ⟨K, 7, none⟩ (.int .u8 x7)).heap[K]? = some (.cells #[.int .u8 x0, .int .u8 x1, .int .u8 x2, .int .u8 x3, .int .u8 x4, .int .u8 x5, .int .u8 x6, .int .u8 x7] 49 (0, 0))) := hset
        clear hset hx0 hx1 hx2 hx3 hx4 hx5 hx6 hx7 hrow hC1 hbd
        by_cases c6 : x0 = 6
        · have f6 : (x0 == 6) = true := by simp [c6]
          by_cases c1 : x1 = 1
          · have f1 : (x1 == 1) = true := by simp [c1]
            have HK : Hid (kindOf (cB zs k 0) (cB zs k 1) = 5) := by show _ = _; rw [← HX.out]; exact (kind5 b00 b10).2 ⟨c6, c1⟩
            clear c6 c1 HX
            go_wp2
            go_roundw
            case rel =>
              refine ⟨k + 1, by omega, by go_num, Or.inr ⟨rfl, k, hlt, HNO.out, HK.out, ?_⟩, ?_⟩
              · rw [← HC.out]; exact HS.out
              · exact ((((((((hnx.setCell (p := ⟨K, 0, none⟩) (Nat.le_refl _) _).setCell (p := ⟨K, 1, none⟩) (Nat.le_refl _) _).setCell (p := ⟨K, 2, none⟩) (Nat.le_refl _) _).setCell (p := ⟨K, 3, none⟩) (Nat.le_refl _) _).setCell (p := ⟨K, 4, none⟩) (Nat.le_refl _) _).setCell (p := ⟨K, 5, none⟩) (Nat.le_refl _) _).setCell (p := ⟨K, 6, none⟩) (Nat.le_refl _) _).setCell (p := ⟨K, 7, none⟩) (Nat.le_refl _) _)
            case measure => simp [intOf]; omega
          · have f1 : (x1 == 1) = false := by simp [c1]
            have HK : Hid (kindOf (cB zs k 0) (cB zs k 1) ≠ 5) := by show _ ≠ _; rw [← HX.out]; exact fun h => c1 ((kind5 b00 b10).1 h).2
            clear c6 c1 HX HS
            go_wp2
            go_roundw
            case rel =>
              refine ⟨k + 1, by omega, by go_num, Or.inl ⟨rfl, fun j hj => ?_, hblk⟩, hnx⟩
              by_cases e : j = k
              · subst e; exact HK.out
              · exact HNO.out j (by omega)
            case measure => simp [intOf]; omega
        · have f6 : (x0 == 6) = false := by simp [c6]
          have HK : Hid (kindOf (cB zs k 0) (cB zs k 1) ≠ 5) := by show _ ≠ _; rw [← HX.out]; exact fun h => c6 ((kind5 b00 b10).1 h).1
          clear c6 HX HS
          go_wp2
          go_roundw
          case rel =>
            refine ⟨k + 1, by omega, by go_num, Or.inl ⟨rfl, fun j hj => ?_, hblk⟩, hnx⟩
            by_cases e : j = k
            · subst e; exact HK.out
            · exact HNO.out j (by omega)
          case measure => simp [intOf]; omega
      · have hke : k = n := by omega
        subst hke
        have HE : Hid (eslOf zs k = 0) := by show _ = _; unfold eslOf; rw [firstK_none HNO.out]
        clear hC1 hblk hbd
        go_wp2
        go_ret
        exact ⟨by rw [HE.out]; rfl, hbw2⟩
    · obtain ⟨r0, r1, r2, r3, r4, r5, r6, r7⟩ := cells8 hblk
      have hE : eslOf zs n = if cB zs i 2 / 64 = 0 then 0 else if bits .and .u8 (cB zs i 2) 3 = 1 then 18 else if fixB zs n then 19 else 0 := by
        unfold eslOf
        rw [firstK_some hi hno hkd]
      have b2 := hbd i 2
      obtain ⟨x2, hx2⟩ : ∃ x, x = cB zs i 2 := ⟨_, rfl⟩
      rw [← hx2] at hE r2 b2
      obtain ⟨b20, b21⟩ := b2
      have HE : Hid (eslOf zs n = if x2 / 64 = 0 then 0 else if bits .and .u8 x2 3 = 1 then 18 else if fixB zs n then 19 else 0) := hE
      clear hE hno hkd hblk hx2 r0 r1 r3 r4 r5 r6 r7
      have hC2 := hC1.below hnx (by omega)
      have fin0 : decide (k < n) = decide (k < n) := rfl
      by_cases hlt : k < n
      all_goals
        by_cases h0 : x2 / 64 = 0
        · have q0 : (x2 / 64 == 0) = true := by simp [h0]
          have HE2 : Hid (eslOf zs n = 0) := by show _ = _; rw [HE.out, if_pos h0]
          clear h0 HE hC1 hC2 hbd
          go_wp2
          go_ret
          exact ⟨by rw [HE2.out]; rfl, hbw2⟩
        · have q0 : (x2 / 64 == 0) = false := by simp [h0]
          by_cases h1 : bits .and .u8 x2 3 = 1
          · have q1 : (bits .and .u8 x2 3 == 1) = true := by simp [h1]
            have HE2 : Hid (eslOf zs n = 18) := by show _ = _; rw [HE.out, if_neg h0, if_pos h1]
            clear h0 h1 HE hC1 hC2 hbd
            go_wp2
            go_ret
            exact ⟨by rw [HE2.out]; rfl, hbw2⟩
          · have q1 : (bits .and .u8 x2 3 == 1) = false := by simp [h1]
            have HE2 : Hid (eslOf zs n = if fixB zs n then 19 else 0) := by show _ = _; rw [HE.out, if_neg h0, if_neg h1]
            clear h0 h1 HE hC1
            go_wp2
            go_loopw [24, 25, 26] (fun en fx i wr => ∃ m : Nat, m ≤ n ∧ i = .int .i64 m ∧ en = .bool (!(tuns zs m).isEmpty) ∧ fx = .bool ((tuns zs m).any hitT) ∧ Below w.heap.size w wr) (fun _ _ i _ => n - (intOf i).toNat)
            case atStart => exact ⟨0, Nat.zero_le _, rfl, rfl, rfl, hbw2⟩
            case round =>
              obtain ⟨m, hm, rfl, rfl, rfl, hnx3⟩ := hrel
              by_cases hlt3 : m < n
              · obtain ⟨b, off, rfl, hrow⟩ := (hC.below hnx3 (Nat.le_refl _)) (by omega)
                have q0' := hrow.cell m 0 hlt3 (by omega)
                rw [Nat.add_zero] at q0'
                have q1' := hrow.cell m 1 hlt3 (by omega)
                have q6 := hrow.cell m 6 hlt3 (by omega)
                have q7 := hrow.cell m 7 hlt3 (by omega)
                obtain ⟨b00, b01⟩ := hrow.bd m 0
                obtain ⟨b10, b11⟩ := hrow.bd m 1
                obtain ⟨b60, b61⟩ := hrow.bd m 6
                obtain ⟨b70, b71⟩ := hrow.bd m 7
                obtain ⟨x0, hx0⟩ : ∃ x, x = cB zs m 0 := ⟨_, rfl⟩
                obtain ⟨x1, hx1⟩ : ∃ x, x = cB zs m 1 := ⟨_, rfl⟩
                obtain ⟨x6, hx6⟩ : ∃ x, x = cB zs m 6 := ⟨_, rfl⟩
                obtain ⟨x7, hx7⟩ : ∃ x, x = cB zs m 7 := ⟨_, rfl⟩
                rw [← hx0] at q0' b00 b01
                rw [← hx1] at q1' b10 b11
                rw [← hx6] at q6 b60 b61
                rw [← hx7] at q7 b70 b71
                have HX : Hid (kindOf x0 x1 = kindOf (cB zs m 0) (cB zs m 1)) := by show _ = _; rw [hx0, hx1]
                obtain ⟨tv, htv⟩ : ∃ t, t = t16 zs m := ⟨_, rfl⟩
                have hor : bits .or .u16 (x6 * 256) x7 = tv := by
                  rw [htv]
                  have e := u16_or8 (y := x7) (x := x6 * 256) (by omega) (by omega) (by omega) (by omega) (by omega)
                  rw [or_turn, e]
                  show _ = cB zs m 6 * 256 + cB zs m 7
                  rw [← hx6, ← hx7]; omega
                have e0' : (0 : Int) ≤ (m : Int) := by omega
                have e1' : (m : Int) < (n : Int) := by omega
                clear hx0 hx1 hx6 hx7 hrow hC hC2 hbd
                by_cases c3 : x0 = 3
                · have f3 : (x0 == 3) = true := by simp [c3]
                  by_cases c12 : x1 = 12
                  · have f12 : (x1 == 12) = true := by simp [c12]
                    have HK : Hid (kindOf (cB zs m 0) (cB zs m 1) = 2) := by show _ = _; rw [← HX.out]; exact (kind2 b00 b10).2 ⟨c3, c12⟩
                    clear c3 c12 HX
                    have HTV : Hid (tv = t16 zs m) := htv
                    clear htv
                    by_cases t8 : tv = 8
                    · have g8 : (tv == 8) = true := by simp [t8]
                      have HT : Hid (hitT (t16 zs m) = true) := by show _ = _; rw [← HTV.out]; simp [hitT, t8]
                      clear t8
                      go_wp2
                      go_region
                      go_wp2
                      go_roundw
                      case rel => exact ⟨m + 1, by omega, by go_num, by rw [tuns_yes HK.out]; simp, by rw [tuns_yes HK.out, any_snoc, HT.out]; simp, hnx3.drew⟩
                      case measure => simp [intOf]; omega
                    by_cases t9 : tv = 9
                    · have g8 : (tv == 8) = false := by simp [t8]
                      have g9 : (tv == 9) = true := by simp [t9]
                      have HT : Hid (hitT (t16 zs m) = true) := by show _ = _; rw [← HTV.out]; simp [hitT, t9]
                      clear t8 t9
                      go_wp2
                      go_region
                      go_wp2
                      go_roundw
                      case rel => exact ⟨m + 1, by omega, by go_num, by rw [tuns_yes HK.out]; simp, by rw [tuns_yes HK.out, any_snoc, HT.out]; simp, hnx3.drew⟩
                      case measure => simp [intOf]; omega
                    by_cases t10 : tv = 10
                    · have g8 : (tv == 8) = false := by simp [t8]
                      have g9 : (tv == 9) = false := by simp [t9]
                      have g10 : (tv == 10) = true := by simp [t10]
                      have HT : Hid (hitT (t16 zs m) = true) := by show _ = _; rw [← HTV.out]; simp [hitT, t10]
                      clear t8 t9 t10
                      go_wp2
                      go_region
                      go_wp2
                      go_roundw
                      case rel => exact ⟨m + 1, by omega, by go_num, by rw [tuns_yes HK.out]; simp, by rw [tuns_yes HK.out, any_snoc, HT.out]; simp, hnx3.drew⟩
                      case measure => simp [intOf]; omega
                    have g8 : (tv == 8) = false := by simp [t8]
                    have g9 : (tv == 9) = false := by simp [t9]
                    have g10 : (tv == 10) = false := by simp [t10]
                    have HT : Hid (hitT (t16 zs m) = false) := by show _ = _; rw [← HTV.out]; simp [hitT, t8, t9, t10]
                    clear t8 t9 t10
                    go_wp2
                    go_region
                    go_wp2
                    go_roundw
                    case rel => exact ⟨m + 1, by omega, by go_num, by rw [tuns_yes HK.out]; simp, by rw [tuns_yes HK.out, any_snoc, HT.out]; simp, hnx3.drew⟩
                    case measure => simp [intOf]; omega
                  · have f12 : (x1 == 12) = false := by simp [c12]
                    have HK : Hid (kindOf (cB zs m 0) (cB zs m 1) ≠ 2) := by show _ ≠ _; rw [← HX.out]; exact fun h => c12 ((kind2 b00 b10).1 h).2
                    clear c3 c12 HX htv hor
                    go_wp2
                    go_roundw
                    case rel => exact ⟨m + 1, by omega, by go_num, by rw [tuns_no HK.out], by rw [tuns_no HK.out], hnx3⟩
                    case measure => simp [intOf]; omega
                · have f3 : (x0 == 3) = false := by simp [c3]
                  have HK : Hid (kindOf (cB zs m 0) (cB zs m 1) ≠ 2) := by show _ ≠ _; rw [← HX.out]; exact fun h => c3 ((kind2 b00 b10).1 h).1
                  clear c3 HX htv hor
                  go_wp2
                  go_roundw
                  case rel => exact ⟨m + 1, by omega, by go_num, by rw [tuns_no HK.out], by rw [tuns_no HK.out], hnx3⟩
                  case measure => simp [intOf]; omega
              · have hme : m = n := by omega
                subst hme
                have HF : Hid (fixB zs m = ((tuns zs m).any hitT || (tuns zs m).isEmpty)) := rfl
                obtain ⟨fa, hfa⟩ : ∃ b, b = (tuns zs m).any hitT := ⟨_, rfl⟩
                obtain ⟨em, hem⟩ : ∃ b, b = (tuns zs m).isEmpty := ⟨_, rfl⟩
                rw [← hfa, ← hem] at HF ⊢
                clear hfa hem hC hC2 hbd
                cases fa
                all_goals
                  cases em
                  all_goals
                    go_wp2
                    go_ret
                    exact ⟨by rw [HE2.out, HF.out]; rfl, hnx3⟩

end Go.Proofs.Qxb6003815aDoor
