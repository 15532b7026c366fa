/-
  '(*Route).fault': an IP Prefix route.
-/
import Derived.Test.Qxb6003815aDoorFault
namespace Go.Proofs.Qxb6003815aDoor
open Go.ChangeShapes Go.WideShapes Go.ChangeAt Go.RowKit
set_option linter.unusedVariables false

/-- What an IP Prefix route answers. -/
def pfxOf (label : Int) (z u : Bool) (zs : List Int) (n : Nat) : Int := if z = false ∧ u = false then 16 else if label = 0 ∧ z = true ∧ u = true ∧ anyK zs 7 n = false then 17 else 0

set_option maxRecDepth 100000 in
set_option maxHeartbeats 6400000 in
theorem fault_pfx (Br Ba n cap : Nat) (ad : Option Addr) (zs : List Int) (a4 a6 : Addr) (e0 e1 e2 e3 e4 e5 e6 e7 e8 e9 tag hi lo : Int) (gp : Option Addr) (label : Int) (u : Bool) (w : World) (hR : Rt Br 5 e0 e1 e2 e3 e4 e5 e6 e7 e8 e9 tag hi lo gp label w) (h5 : e0 ≤ 5)
    (hn : n ≤ 65536) (hA : Attr Ba ad n cap zs w) (hG : Glob a4 a6 w)
    (hU : ∀ V, Glob a4 a6 V → Calls Tryd.prog 12 #[.agg #[.int .u64 hi, .int .u64 lo, .pointer gp]] V fun e V' => e = .returned (.bool u) ∧ Below V.heap.size V V') :
    Calls Tryd.prog 10 #[.pointer (some ⟨Br, 0, none⟩), .pointer (some ⟨Ba, 0, none⟩)] w fun e w' => e = .returned (.int .u8 (pfxOf label (zeroB [e0, e1, e2, e3, e4, e5, e6, e7, e8, e9]) u zs n)) ∧ Below w.heap.size w w' := by
  have hU' : Hid (∀ V, Glob a4 a6 V → Calls Tryd.prog 12 #[.agg #[.int .u64 hi, .int .u64 lo, .pointer gp]] V fun e V' => e = .returned (.bool u) ∧ Below V.heap.size V V') := hU
  have hZ : Hid (∀ V, Calls Tryd.prog 13 #[.agg #[.int .u8 e0, .int .u8 e1, .int .u8 e2, .int .u8 e3, .int .u8 e4, .int .u8 e5, .int .u8 e6, .int .u8 e7, .int .u8 e8, .int .u8 e9]] V fun e V' => e = .returned (.bool (zeroB [e0, e1, e2, e3, e4, e5, e6, e7, e8, e9])) ∧ Below V.heap.size V V') := fun V => isZero_any e0 e1 e2 e3 e4 e5 e6 e7 e8 e9 V
  obtain ⟨z, hz⟩ : ∃ z, z = zeroB [e0, e1, e2, e3, e4, e5, e6, e7, e8, e9] := ⟨_, rfl⟩
  rw [← hz] at hZ ⊢
  obtain ⟨rt0, rt9, rt10, rt11, rt12, rt13, rt14, rt15, rt16, rt17, rt18, rt19, rt33, rt34, rt35, rt36⟩ := hR.all
  have hd : decide (e0 ≤ 5) = true := decide_eq_true h5
  clear hU hz
  go_enter Tryd.func10, Tryd.ntmps10
  go_wp2_with fail
  refine (known_any e0 e1 e2 e3 e4 e5 e6 e7 e8 e9 _).mono ?_
  rintro e w1 ⟨rfl, hb⟩
  have hR1 := hR.below hb (Nat.le_refl _)
  have hA1 := hA.below hb (Nat.le_refl _)
  have hG1 := hG.below hb (Nat.le_refl _)
  clear rt0 rt9 rt10 rt11 rt12 rt13 rt14 rt15 rt16 rt17 rt18 rt19 rt33 rt34 rt35 rt36 hR hA hG
  obtain ⟨rt0, rt9, rt10, rt11, rt12, rt13, rt14, rt15, rt16, rt17, rt18, rt19, rt33, rt34, rt35, rt36⟩ := hR1.all
  go_wp2_with fail
  refine (hU'.out _ hG1).mono ?_
  rintro e w2 ⟨rfl, hb2⟩
  have hR2 := hR1.below hb2 (Nat.le_refl _)
  have hA2 := hA1.below hb2 (Nat.le_refl _)
  have hG2 := hG1.below hb2 (Nat.le_refl _)
  have hbw2 : Below w.heap.size w w2 := hb.trans (hb2.mono hb.size)
  clear rt0 rt9 rt10 rt11 rt12 rt13 rt14 rt15 rt16 rt17 rt18 rt19 rt33 rt34 rt35 rt36 hR1 hA1 hG1 hb hb2 hU'
  obtain ⟨rt0, rt9, rt10, rt11, rt12, rt13, rt14, rt15, rt16, rt17, rt18, rt19, rt33, rt34, rt35, rt36⟩ := hR2.all
  go_wp2_with fail
  refine (hZ.out _).mono ?_
  rintro e w3 ⟨rfl, hb3⟩
  have hR3 := hR2.below hb3 (Nat.le_refl _)
  have hA3 := hA2.below hb3 (Nat.le_refl _)
  have hG3 := hG2.below hb3 (Nat.le_refl _)
  have hbw3 : Below w.heap.size w w3 := hbw2.trans (hb3.mono hbw2.size)
  clear rt0 rt9 rt10 rt11 rt12 rt13 rt14 rt15 rt16 rt17 rt18 rt19 rt33 rt34 rt35 rt36 hR2 hA2 hG2 hb3 hbw2
  by_cases h16 : z = false ∧ u = false
  · obtain ⟨rfl, rfl⟩ := h16
    clear hR3 hA3 hG3 hZ
    go_wp2
    go_ret
    exact ⟨rfl, hbw3⟩
  · obtain ⟨rt0, rt9, rt10, rt11, rt12, rt13, rt14, rt15, rt16, rt17, rt18, rt19, rt33, rt34, rt35, rt36⟩ := hR3.all
    cases z
    · cases u
      · exact absurd ⟨rfl, rfl⟩ h16
      · clear h16
        go_wp2_with fail
        refine (rmac_any Ba n cap ad zs a4 a6 _ hn hA3 hG3).mono ?_
        rintro e w4 ⟨hb4, y0, y1, y2, y3, y4, y5, ok, rfl, hok⟩
        have hR4 := hR3.below hb4 (Nat.le_refl _)
        have hbw4 : Below w.heap.size w w4 := hbw3.trans (hb4.mono hbw3.size)
        have hB5 : Below w4.heap.size w4 (w4.alloc (.cells #[.int .u8 y0, .int .u8 y1, .int .u8 y2, .int .u8 y3, .int .u8 y4, .int .u8 y5] 32)) := (Below.refl _ _).alloc (Nat.le_refl _) _
        have hR5 := hR4.below hB5 (Nat.le_refl _)
        have hbw5 : Below w.heap.size w (w4.alloc (.cells #[.int .u8 y0, .int .u8 y1, .int .u8 y2, .int .u8 y3, .int .u8 y4, .int .u8 y5] 32)) := hbw4.trans (hB5.mono hbw4.size)
        clear rt0 rt9 rt10 rt11 rt12 rt13 rt14 rt15 rt16 rt17 rt18 rt19 rt33 rt34 rt35 rt36 hA3 hG3 hb4 hbw3 hR3 hR4 hB5 hbw4
        obtain ⟨rt0, rt9, rt10, rt11, rt12, rt13, rt14, rt15, rt16, rt17, rt18, rt19, rt33, rt34, rt35, rt36⟩ := hR5.all
        clear hR5
        clear hok
        have HE : Hid (pfxOf label false true zs n = 0) := by show _ = _; unfold pfxOf; simp
        by_cases hl : label = 0
        · have ql : (label == 0) = true := by simp [hl]
          clear hl
          go_wp2_with fail
          refine (hZ.out _).mono ?_
          rintro e w6 ⟨rfl, hb6⟩
          have hbw6 : Below w.heap.size w w6 := hbw5.trans (hb6.mono hbw5.size)
          clear hb6 hbw5 hZ
          go_wp2
          go_ret
          exact ⟨by rw [HE.out]; rfl, hbw6⟩
        · have ql : (label == 0) = false := by simp [hl]
          clear hl hZ
          go_wp2
          go_ret
          exact ⟨by rw [HE.out]; rfl, hbw5⟩
    · clear h16
      cases u
      · go_wp2_with fail
        refine (rmac_any Ba n cap ad zs a4 a6 _ hn hA3 hG3).mono ?_
        rintro e w4 ⟨hb4, y0, y1, y2, y3, y4, y5, ok, rfl, hok⟩
        have hR4 := hR3.below hb4 (Nat.le_refl _)
        have hbw4 : Below w.heap.size w w4 := hbw3.trans (hb4.mono hbw3.size)
        have hB5 : Below w4.heap.size w4 (w4.alloc (.cells #[.int .u8 y0, .int .u8 y1, .int .u8 y2, .int .u8 y3, .int .u8 y4, .int .u8 y5] 32)) := (Below.refl _ _).alloc (Nat.le_refl _) _
        have hR5 := hR4.below hB5 (Nat.le_refl _)
        have hbw5 : Below w.heap.size w (w4.alloc (.cells #[.int .u8 y0, .int .u8 y1, .int .u8 y2, .int .u8 y3, .int .u8 y4, .int .u8 y5] 32)) := hbw4.trans (hB5.mono hbw4.size)
        clear rt0 rt9 rt10 rt11 rt12 rt13 rt14 rt15 rt16 rt17 rt18 rt19 rt33 rt34 rt35 rt36 hA3 hG3 hb4 hbw3 hR3 hR4 hB5 hbw4
        obtain ⟨rt0, rt9, rt10, rt11, rt12, rt13, rt14, rt15, rt16, rt17, rt18, rt19, rt33, rt34, rt35, rt36⟩ := hR5.all
        clear hR5
        clear hok
        have HE : Hid (pfxOf label true false zs n = 0) := by show _ = _; unfold pfxOf; simp
        by_cases hl : label = 0
        · have ql : (label == 0) = true := by simp [hl]
          clear hl
          go_wp2_with fail
          refine (hZ.out _).mono ?_
          rintro e w6 ⟨rfl, hb6⟩
          have hbw6 : Below w.heap.size w w6 := hbw5.trans (hb6.mono hbw5.size)
          clear hb6 hbw5 hZ
          go_wp2
          go_ret
          exact ⟨by rw [HE.out]; rfl, hbw6⟩
        · have ql : (label == 0) = false := by simp [hl]
          clear hl hZ
          go_wp2
          go_ret
          exact ⟨by rw [HE.out]; rfl, hbw5⟩
      · go_wp2_with fail
        refine (rmac_any Ba n cap ad zs a4 a6 _ hn hA3 hG3).mono ?_
        rintro e w4 ⟨hb4, y0, y1, y2, y3, y4, y5, ok, rfl, hok⟩
        have hR4 := hR3.below hb4 (Nat.le_refl _)
        have hbw4 : Below w.heap.size w w4 := hbw3.trans (hb4.mono hbw3.size)
        have hB5 : Below w4.heap.size w4 (w4.alloc (.cells #[.int .u8 y0, .int .u8 y1, .int .u8 y2, .int .u8 y3, .int .u8 y4, .int .u8 y5] 32)) := (Below.refl _ _).alloc (Nat.le_refl _) _
        have hR5 := hR4.below hB5 (Nat.le_refl _)
        have hbw5 : Below w.heap.size w (w4.alloc (.cells #[.int .u8 y0, .int .u8 y1, .int .u8 y2, .int .u8 y3, .int .u8 y4, .int .u8 y5] 32)) := hbw4.trans (hB5.mono hbw4.size)
        clear rt0 rt9 rt10 rt11 rt12 rt13 rt14 rt15 rt16 rt17 rt18 rt19 rt33 rt34 rt35 rt36 hA3 hG3 hb4 hbw3 hR3 hR4 hB5 hbw4
        obtain ⟨rt0, rt9, rt10, rt11, rt12, rt13, rt14, rt15, rt16, rt17, rt18, rt19, rt33, rt34, rt35, rt36⟩ := hR5.all
        clear hR5
        have hok' : anyK zs 7 n = ok := by
          rcases hok with ⟨rfl, i, hi', hk⟩ | ⟨rfl, hno⟩
          · exact anyK_true hi' hk
          · exact anyK_false hno
        clear hok
        by_cases hl : label = 0
        · have ql : (label == 0) = true := by simp [hl]
          have HE : Hid (pfxOf label true true zs n = if ok = false then 17 else 0) := by show _ = _; unfold pfxOf; rw [hok']; simp [hl]
          clear hl hok'
          go_wp2_with fail
          refine (hZ.out _).mono ?_
          rintro e w6 ⟨rfl, hb6⟩
          have hbw6 : Below w.heap.size w w6 := hbw5.trans (hb6.mono hbw5.size)
          clear hb6 hbw5 hZ
          cases ok
          · go_wp2
            go_ret
            exact ⟨by rw [HE.out]; rfl, hbw6⟩
          · go_wp2
            go_ret
            exact ⟨by rw [HE.out]; rfl, hbw6⟩
        · have ql : (label == 0) = false := by simp [hl]
          have HE : Hid (pfxOf label true true zs n = 0) := by show _ = _; unfold pfxOf; simp [hl]
          clear hl hok' hZ
          go_wp2
          go_ret
          exact ⟨by rw [HE.out]; rfl, hbw5⟩

end Go.Proofs.Qxb6003815aDoor
