/-
  The walk of 'FnScannerReadersReadMaximalRuns'.
-/
import Derived.Test.Qxb6003738aScan
namespace Go.Proofs.Qxb6003738a
open Go.ChangeShapes Go.WideShapes Go.ChangeAt Go.RowKit
set_option linter.unusedVariables false

theorem sc_new (w : World) (s : ByteArray) (p : Nat) : Sc w.heap.size s p (w.alloc (.cells #[.string s, .int .i64 p] 26)) := heap_alloc_new _ _

set_option maxRecDepth 100000 in
set_option maxHeartbeats 1600000 in
theorem scan_walk (s : ByteArray) (a1 : Int) (a2 : Option Addr) (len2 cap2 : Nat) (z2 : List Int) (w : World) (w0 : s.size ≤ maxLen) (w1 : (Lit.int .i64 a1).wf = true) (w2 : IsRow .u8 w a2 len2 cap2 z2) :
    Calls Try.prog 3 #[.string s, .int .i64 a1, .slice a2 len2 cap2] w fun e w' => e = .returned (.bool true) ∧ Below w.heap.size w w' := by
  have hzz := zzs_any s a1 a2 len2 cap2 w0 w2.len_le
  have w0' := w0
  have wl := w2.len_le
  unfold maxLen at w0' wl
  by_cases hs : s.size ≤ 65536
  case neg =>
    go_enter Try.func3, Try.ntmps3
    go_wp2_with fail
    refine (hzz _).mono ?_
    rintro e w' ⟨he, rfl⟩
    rcases he with rfl | rfl
    all_goals
      go_wp2
      go_ret
      exact ⟨rfl, Below.refl _ _⟩
  by_cases hl : len2 ≤ 65536
  case neg =>
    go_enter Try.func3, Try.ntmps3
    go_wp2_with fail
    refine (hzz _).mono ?_
    rintro e w' ⟨he, rfl⟩
    rcases he with rfl | rfl
    all_goals
      go_wp2
      go_ret
      exact ⟨rfl, Below.refl _ _⟩
  by_cases hp0 : 0 ≤ a1
  case neg =>
    go_enter Try.func3, Try.ntmps3
    go_wp2_with fail
    refine (hzz _).mono ?_
    rintro e w' ⟨he, rfl⟩
    rcases he with rfl | rfl
    all_goals
      go_wp2
      go_ret
      exact ⟨rfl, Below.refl _ _⟩
  by_cases hp1 : a1 ≤ s.size
  case neg =>
    go_enter Try.func3, Try.ntmps3
    go_wp2_with fail
    refine (hzz _).mono ?_
    rintro e w' ⟨he, rfl⟩
    rcases he with rfl | rfl
    all_goals
      go_wp2
      go_ret
      exact ⟨rfl, Below.refl _ _⟩
  obtain ⟨p, rfl⟩ : ∃ p : Nat, a1 = p := ⟨a1.toNat, by omega⟩
  have hp : p ≤ s.size := by omega
  clear hp0 hp1 w0 w0' w1 wl
  go_enter Try.func3, Try.ntmps3
  go_wp2_with fail
  refine (hzz _).mono ?_
  rintro e w' ⟨he, rfl⟩
  clear hzz
  rcases he with rfl | rfl
  case inr =>
    go_wp2
    go_ret
    exact ⟨rfl, Below.refl _ _⟩
  go_wp2_with fail
  refine (clone_any a2 len2 cap2 z2 _ (by omega) w2).mono ?_
  rintro e wc ⟨b0, rfl, hrow, hb1⟩
  obtain ⟨zs, hzs⟩ : ∃ zs, zs = z2.take len2 := ⟨_, rfl⟩
  rw [← hzs] at hrow
  have HROW : Hid (IsRow .u8 wc b0 len2 len2 zs) := hrow
  obtain ⟨K, hK⟩ : ∃ K, wc.heap.size = K := ⟨_, rfl⟩
  have hKw : w'.heap.size ≤ K := by rw [← hK]; exact hb1.size
  clear hrow hzs w2
  go_wp2_with fail
  go_loopw [8] (fun i wr => ∃ k : Nat, k ≤ len2 ∧ i = .int .i64 k ∧ (∃ u : Nat, u ≤ s.size ∧ Sc K s u wr) ∧ Below K wc wr)
    (fun i _ => len2 - (intOf i).toNat)
  case atStart =>
    refine ⟨0, Nat.zero_le _, rfl, ⟨p, hp, ?_⟩, ?_⟩
    · rw [← hK]; exact sc_new _ _ _
    · exact (Below.refl _ _).alloc (by omega) _
  case round =>
    obtain ⟨k, hk, rfl, ⟨u, hus, hsc⟩, hnx⟩ := hrel
    by_cases hkl : k < len2
    · obtain ⟨b, off, rfl, hlz, hcs, hbd⟩ := HROW.out.at (by omega)
      have hbK : b < K := by rw [← hK]; exact World.block_lt_of_cell? wc ⟨b, off + k, none⟩ (hcs k (by omega))
      have cz := (hnx.cell (p := ⟨b, off + k, none⟩) hbK).trans (hcs k (by omega))
      obtain ⟨z1, z2'⟩ := hbd k
      obtain ⟨z, hz⟩ : ∃ z, z = zs.getD k 0 := ⟨_, rfl⟩
      rw [← hz] at cz z1 z2'
      have o0 : 0 ≤ z % 4 := by omega
      have o1 : z % 4 < 4 := by omega
      have cp := hsc.pos
      clear hz hcs hbd HROW
      go_wp2_with fail
      refine (apply_any K s u (z % 4) _ (by omega) hsc hus o0 o1).mono ?_
      rintro e wd ⟨q, sv, nv, rfl, hrun, hsc2, hon, hsv, hnv⟩
      have hnx2 := hnx.trans (hon.below (Nat.le_refl _))
      have ct := hsc2.text
      have cq := hsc2.pos
      have g1 := hrun.le
      have g2 := hrun.size
      have HRUN : Hid (IsRun (clsOf (z % 4)) s u q) := hrun
      have HSV : Hid (z % 4 = 1 ∨ z % 4 = 2 → sv = s.extract u q) := hsv
      have HNV : Hid (z % 4 = 3 → nv = (q : Int) - (u : Int)) := hnv
      have dd1 : decide (q < u) = false := decide_eq_false (by omega)
      have dd2 : decide (s.size < q) = false := decide_eq_false (by omega)
      clear hon hsc cp hrun hsv hnv hnx cz
      go_wp2_with fail
      go_loopg [13] (q - u) (fun m i wx => ∃ j : Nat, m = q - j ∧ u ≤ j ∧ j ≤ q ∧ i = .int .i64 j ∧ wx = wd)
      case atStart => exact ⟨u, rfl, Nat.le_refl _, g1, rfl, rfl⟩
      case round =>
        obtain ⟨j, hgk, hj1, hj2, rfl, rfl⟩ := hrel
        have HGK : Hid (gk = q - j) := hgk
        clear hgk
        by_cases hjq : j < q
        · have hjs : j < s.size := by omega
          have hcl := HRUN.out.all j hj1 hjq
          rw [byteAt_in hjs] at hcl
          go_wp2_with (go_at_call 10; refine (incl_any (z % 4) _ o0 o1 _).mono ?_; rintro e w' ⟨rfl, rfl⟩)
          go_roundg (q - (j + 1))
          case measure => rw [HGK.out]; omega
          case rel => exact ⟨j + 1, rfl, by omega, by omega, by go_num, rfl⟩
        · have hjq' : j = q := by omega
          subst hjq'
          have hus2 : j ≤ s.size := g2
          by_cases hqs : j < s.size
          · have hcl := HRUN.out.stop hqs
            rw [byteAt_in hqs] at hcl
            rcases (show z % 4 = 0 ∨ z % 4 = 1 ∨ z % 4 = 2 ∨ z % 4 = 3 by omega) with ho | ho | ho | ho
            · rw [ho] at hcl
              clear HSV HNV HRUN HGK
              go_wp2_with (go_at_call 10; refine (incl_any 0 _ (by omega) (by omega) _).mono ?_; rintro e w' ⟨rfl, rfl⟩)
              go_roundw
              case rel => exact ⟨k + 1, by omega, by go_num, ⟨j, hus2, hsc2⟩, hnx2⟩
              case measure => simp [intOf]; omega
            · rw [ho] at hcl
              have hsv := HSV.out (Or.inl ho)
              subst hsv
              clear HSV HNV HRUN HGK
              go_wp2_with (go_at_call 10; refine (incl_any 1 _ (by omega) (by omega) _).mono ?_; rintro e w' ⟨rfl, rfl⟩)
              go_roundw
              case rel => exact ⟨k + 1, by omega, by go_num, ⟨j, hus2, hsc2⟩, hnx2⟩
              case measure => simp [intOf]; omega
            · rw [ho] at hcl
              have hsv := HSV.out (Or.inr ho)
              subst hsv
              clear HSV HNV HRUN HGK
              go_wp2_with (go_at_call 10; refine (incl_any 2 _ (by omega) (by omega) _).mono ?_; rintro e w' ⟨rfl, rfl⟩)
              go_roundw
              case rel => exact ⟨k + 1, by omega, by go_num, ⟨j, hus2, hsc2⟩, hnx2⟩
              case measure => simp [intOf]; omega
            · rw [ho] at hcl
              have hnv := HNV.out ho
              subst hnv
              clear HSV HNV HRUN HGK
              go_wp2_with (go_at_call 10; refine (incl_any 3 _ (by omega) (by omega) _).mono ?_; rintro e w' ⟨rfl, rfl⟩)
              go_roundw
              case rel => exact ⟨k + 1, by omega, by go_num, ⟨j, hus2, hsc2⟩, hnx2⟩
              case measure => simp [intOf]; omega
          · rcases (show z % 4 = 0 ∨ z % 4 = 1 ∨ z % 4 = 2 ∨ z % 4 = 3 by omega) with ho | ho | ho | ho
            · clear HSV HNV HRUN HGK
              go_wp2
              go_roundw
              case rel => exact ⟨k + 1, by omega, by go_num, ⟨j, hus2, hsc2⟩, hnx2⟩
              case measure => simp [intOf]; omega
            · have hsv := HSV.out (Or.inl ho)
              subst hsv
              clear HSV HNV HRUN HGK
              go_wp2
              go_roundw
              case rel => exact ⟨k + 1, by omega, by go_num, ⟨j, hus2, hsc2⟩, hnx2⟩
              case measure => simp [intOf]; omega
            · have hsv := HSV.out (Or.inr ho)
              subst hsv
              clear HSV HNV HRUN HGK
              go_wp2
              go_roundw
              case rel => exact ⟨k + 1, by omega, by go_num, ⟨j, hus2, hsc2⟩, hnx2⟩
              case measure => simp [intOf]; omega
            · have hnv := HNV.out ho
              subst hnv
              clear HSV HNV HRUN HGK
              go_wp2
              go_roundw
              case rel => exact ⟨k + 1, by omega, by go_num, ⟨j, hus2, hsc2⟩, hnx2⟩
              case measure => simp [intOf]; omega
    · go_wp2
      go_ret
      exact ⟨rfl, hb1.trans (hnx.mono hKw)⟩

end Go.Proofs.Qxb6003738a
