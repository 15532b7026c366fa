/-
  '(*Route).fault': an Ethernet A-D per ES route.
-/
import Derived.Test.Qxb6003815aDoorFault
namespace Go.Proofs.Qxb6003815aDoor
open Go.ChangeShapes Go.WideShapes Go.ChangeAt Go.RowKit
set_option linter.unusedVariables false

set_option maxRecDepth 100000 in
set_option maxHeartbeats 3200000 in
theorem fault_ad (Br Ba n cap : Nat) (ad : Option Addr) (zs : List Int) (a4 a6 : Addr) (e0 e1 e2 e3 e4 e5 e6 e7 e8 e9 hi lo : Int) (gp : Option Addr) (label : Int) (w : World) (hR : Rt Br 1 e0 e1 e2 e3 e4 e5 e6 e7 e8 e9 4294967295 hi lo gp label w) (h5 : e0 ≤ 5)
    (hn : n ≤ 65536) (hA : Attr Ba ad n cap zs w) (hG : Glob a4 a6 w) (hbd : ∀ i j, 0 ≤ cB zs i j ∧ cB zs i j ≤ 255) :
    Calls Tryd.prog 10 #[.pointer (some ⟨Br, 0, none⟩), .pointer (some ⟨Ba, 0, none⟩)] w fun e w' => e = .returned (.int .u8 (eslOf zs n)) ∧ Below w.heap.size w w' := by
  obtain ⟨rt0, rt9, rt10, rt11, rt12, rt13, rt14, rt15, rt16, rt17, rt18, rt19, rt33, rt34, rt35, rt36⟩ := hR.all
  have hd : decide (e0 ≤ 5) = true := decide_eq_true h5
  go_enter Tryd.func10, Tryd.ntmps10
  go_wp2_with fail
  refine (known_any e0 e1 e2 e3 e4 e5 e6 e7 e8 e9 _).mono ?_
  rintro e w1 ⟨rfl, hb⟩
  have hR1 := hR.below hb (Nat.le_refl _)
  have hA1 := hA.below hb (Nat.le_refl _)
  have hG1 := hG.below hb (Nat.le_refl _)
  clear rt0 rt9 rt10 rt11 rt12 rt13 rt14 rt15 rt16 rt17 rt18 rt19 rt33 rt34 rt35 rt36 hR hA hG
  obtain ⟨rt0, rt9, rt10, rt11, rt12, rt13, rt14, rt15, rt16, rt17, rt18, rt19, rt33, rt34, rt35, rt36⟩ := hR1.all
  go_wp2_with fail
  refine (esil_any Ba n cap ad zs a4 a6 _ hn hA1 hG1 hbd).mono ?_
  rintro e w2 ⟨hb2, m, s, l, ok, rfl, hok⟩
  have hA2 := hA1.below hb2 (Nat.le_refl _)
  have hG2 := hG1.below hb2 (Nat.le_refl _)
  have hbw : Below w.heap.size w w2 := hb.trans (hb2.mono hb.size)
  clear rt0 rt9 rt10 rt11 rt12 rt13 rt14 rt15 rt16 rt17 rt18 rt19 rt33 rt34 rt35 rt36 hR1 hA1 hG1 hb hb2
  rcases hok with ⟨rfl, i, hi', hno, hk, hm, hs⟩ | ⟨rfl, hno⟩
  · have hE : eslOf zs n = if s = 0 then 0 else if m = 1 then 18 else if fixB zs n then 19 else 0 := by
      unfold eslOf
      rw [firstK_some hi' hno hk, hm, hs]
    have HE : Hid (eslOf zs n = if s = 0 then 0 else if m = 1 then 18 else if fixB zs n then 19 else 0) := hE
    clear hE hno hk hm hs hbd
    by_cases h0 : s = 0
    · have q0 : (s == 0) = true := by simp [h0]
      have HE2 : Hid (eslOf zs n = 0) := by show _ = _; rw [HE.out, if_pos h0]
      clear h0 HE hA2 hG2
      go_wp2
      go_ret
      exact ⟨by rw [HE2.out]; rfl, hbw.alloc (by have := hbw.size; omega) _⟩
    · have q0 : (s == 0) = false := by simp [h0]
      by_cases h1 : m = 1
      · have q1 : (m == 1) = true := by simp [h1]
        have HE2 : Hid (eslOf zs n = 18) := by show _ = _; rw [HE.out, if_neg h0, if_pos h1]
        clear h0 h1 HE hA2 hG2
        go_wp2
        go_ret
        exact ⟨by rw [HE2.out]; rfl, hbw.alloc (by have := hbw.size; omega) _⟩
      · have q1 : (m == 1) = false := by simp [h1]
        have HE2 : Hid (eslOf zs n = if fixB zs n then 19 else 0) := by show _ = _; rw [HE.out, if_neg h0, if_neg h1]
        have hB3 : Below w2.heap.size w2 (w2.alloc (.cells #[.int .u8 m, .int .u8 s, .int .u32 l] 73)) := (Below.refl _ _).alloc (Nat.le_refl _) _
        have hA3 := hA2.below hB3 (Nat.le_refl _)
        have hG3 := hG2.below hB3 (Nat.le_refl _)
        clear h0 h1 HE hA2 hG2
        go_wp2_with fail
        refine (fix_any Ba n cap ad zs a4 a6 _ hn hA3 hG3).mono ?_
        rintro e w4 ⟨rfl, hb4⟩
        have hbw4 : Below w.heap.size w w4 := (hbw.alloc (by have := hbw.size; omega) _).trans (hb4.mono (by have := hbw.size; simp; omega))
        obtain ⟨fx, hfx⟩ : ∃ fx, fx = fixB zs n := ⟨_, rfl⟩
        rw [← hfx] at HE2 ⊢
        clear hfx hA3 hG3 hB3 hb4 hbw
        cases fx
        · go_wp2
          go_ret
          exact ⟨by rw [HE2.out]; rfl, hbw4⟩
        · go_wp2
          go_ret
          exact ⟨by rw [HE2.out]; rfl, hbw4⟩
  · have HE : Hid (eslOf zs n = 0) := by show _ = _; unfold eslOf; rw [firstK_none hno]
    clear hno hA2 hG2 hbd
    go_wp2
    go_ret
    exact ⟨by rw [HE.out]; rfl, hbw.alloc (by have := hbw.size; omega) _⟩

end Go.Proofs.Qxb6003815aDoor
