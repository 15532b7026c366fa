/-
  '(*Route).fault': what it returns.
-/
import Derived.Test.Qxb6003815aDoorPlain
import Derived.Test.Qxb6003815aDoorAttr
namespace Go.Proofs.Qxb6003815aDoor
open Go.ChangeShapes Go.WideShapes Go.ChangeAt Go.RowKit
set_option linter.unusedVariables false

/-- The route in block Br: the cells that 'fault' reads. -/
structure Rt (Br : Nat) (typ e0 e1 e2 e3 e4 e5 e6 e7 e8 e9 tag hi lo : Int) (gp : Option Addr) (label : Int) (w : World) : Prop where
  c0 : w.cell? ⟨Br, 0, none⟩ = some (.int .u8 typ)
  c9 : w.cell? ⟨Br, 9, none⟩ = some (.int .u8 e0)
  c10 : w.cell? ⟨Br, 10, none⟩ = some (.int .u8 e1)
  c11 : w.cell? ⟨Br, 11, none⟩ = some (.int .u8 e2)
  c12 : w.cell? ⟨Br, 12, none⟩ = some (.int .u8 e3)
  c13 : w.cell? ⟨Br, 13, none⟩ = some (.int .u8 e4)
  c14 : w.cell? ⟨Br, 14, none⟩ = some (.int .u8 e5)
  c15 : w.cell? ⟨Br, 15, none⟩ = some (.int .u8 e6)
  c16 : w.cell? ⟨Br, 16, none⟩ = some (.int .u8 e7)
  c17 : w.cell? ⟨Br, 17, none⟩ = some (.int .u8 e8)
  c18 : w.cell? ⟨Br, 18, none⟩ = some (.int .u8 e9)
  c19 : w.cell? ⟨Br, 19, none⟩ = some (.int .u32 tag)
  c33 : w.cell? ⟨Br, 33, none⟩ = some (.int .u64 hi)
  c34 : w.cell? ⟨Br, 34, none⟩ = some (.int .u64 lo)
  c35 : w.cell? ⟨Br, 35, none⟩ = some (.pointer gp)
  c36 : w.cell? ⟨Br, 36, none⟩ = some (.int .u32 label)

theorem Rt.below {Br B : Nat} {typ e0 e1 e2 e3 e4 e5 e6 e7 e8 e9 tag hi lo : Int} {gp : Option Addr} {label : Int} {w w' : World} (h : Rt Br typ e0 e1 e2 e3 e4 e5 e6 e7 e8 e9 tag hi lo gp label w) (hb : Below B w w') (hB : w.heap.size ≤ B) : Rt Br typ e0 e1 e2 e3 e4 e5 e6 e7 e8 e9 tag hi lo gp label w' := by
  have hlt : Br < B := Nat.lt_of_lt_of_le (World.block_lt_of_cell? w ⟨Br, 0, none⟩ h.c0) hB
  exact ⟨(hb.cell (p := ⟨Br, 0, none⟩) hlt).trans h.c0, (hb.cell (p := ⟨Br, 9, none⟩) hlt).trans h.c9, (hb.cell (p := ⟨Br, 10, none⟩) hlt).trans h.c10, (hb.cell (p := ⟨Br, 11, none⟩) hlt).trans h.c11, (hb.cell (p := ⟨Br, 12, none⟩) hlt).trans h.c12, (hb.cell (p := ⟨Br, 13, none⟩) hlt).trans h.c13, (hb.cell (p := ⟨Br, 14, none⟩) hlt).trans h.c14, (hb.cell (p := ⟨Br, 15, none⟩) hlt).trans h.c15, (hb.cell (p := ⟨Br, 16, none⟩) hlt).trans h.c16, (hb.cell (p := ⟨Br, 17, none⟩) hlt).trans h.c17, (hb.cell (p := ⟨Br, 18, none⟩) hlt).trans h.c18, (hb.cell (p := ⟨Br, 19, none⟩) hlt).trans h.c19, (hb.cell (p := ⟨Br, 33, none⟩) hlt).trans h.c33, (hb.cell (p := ⟨Br, 34, none⟩) hlt).trans h.c34, (hb.cell (p := ⟨Br, 35, none⟩) hlt).trans h.c35, (hb.cell (p := ⟨Br, 36, none⟩) hlt).trans h.c36⟩

theorem Rt.all {Br : Nat} {typ e0 e1 e2 e3 e4 e5 e6 e7 e8 e9 tag hi lo : Int} {gp : Option Addr} {label : Int} {w : World} (h : Rt Br typ e0 e1 e2 e3 e4 e5 e6 e7 e8 e9 tag hi lo gp label w) :
    w.cell? ⟨Br, 0, none⟩ = some (.int .u8 typ) ∧ w.cell? ⟨Br, 9, none⟩ = some (.int .u8 e0) ∧ w.cell? ⟨Br, 10, none⟩ = some (.int .u8 e1) ∧ w.cell? ⟨Br, 11, none⟩ = some (.int .u8 e2) ∧ w.cell? ⟨Br, 12, none⟩ = some (.int .u8 e3) ∧ w.cell? ⟨Br, 13, none⟩ = some (.int .u8 e4) ∧ w.cell? ⟨Br, 14, none⟩ = some (.int .u8 e5) ∧ w.cell? ⟨Br, 15, none⟩ = some (.int .u8 e6) ∧ w.cell? ⟨Br, 16, none⟩ = some (.int .u8 e7) ∧ w.cell? ⟨Br, 17, none⟩ = some (.int .u8 e8) ∧ w.cell? ⟨Br, 18, none⟩ = some (.int .u8 e9) ∧ w.cell? ⟨Br, 19, none⟩ = some (.int .u32 tag) ∧ w.cell? ⟨Br, 33, none⟩ = some (.int .u64 hi) ∧ w.cell? ⟨Br, 34, none⟩ = some (.int .u64 lo) ∧ w.cell? ⟨Br, 35, none⟩ = some (.pointer gp) ∧ w.cell? ⟨Br, 36, none⟩ = some (.int .u32 label) :=
  ⟨h.c0, h.c9, h.c10, h.c11, h.c12, h.c13, h.c14, h.c15, h.c16, h.c17, h.c18, h.c19, h.c33, h.c34, h.c35, h.c36⟩

set_option maxRecDepth 100000 in
set_option maxHeartbeats 1600000 in
theorem fault_esi (Br Ba : Nat) (typ e0 e1 e2 e3 e4 e5 e6 e7 e8 e9 tag hi lo : Int) (gp : Option Addr) (label : Int) (w : World) (hR : Rt Br typ e0 e1 e2 e3 e4 e5 e6 e7 e8 e9 tag hi lo gp label w) (h5 : 5 < e0) :
    Calls Tryd.prog 10 #[.pointer (some ⟨Br, 0, none⟩), .pointer (some ⟨Ba, 0, none⟩)] w fun e w' => e = .returned (.int .u8 15) ∧ Below w.heap.size w w' := by
  obtain ⟨rt0, rt9, rt10, rt11, rt12, rt13, rt14, rt15, rt16, rt17, rt18, rt19, rt33, rt34, rt35, rt36⟩ := hR.all
  have hd : decide (e0 ≤ 5) = false := decide_eq_false (by omega)
  clear hR
  go_enter Tryd.func10, Tryd.ntmps10
  go_wp2_with fail
  refine (known_any e0 e1 e2 e3 e4 e5 e6 e7 e8 e9 _).mono ?_
  rintro e w1 ⟨rfl, hb⟩
  go_wp2
  go_ret
  exact ⟨rfl, hb⟩

set_option maxRecDepth 100000 in
set_option maxHeartbeats 1600000 in
theorem fault_other (Br Ba : Nat) (typ e0 e1 e2 e3 e4 e5 e6 e7 e8 e9 tag hi lo : Int) (gp : Option Addr) (label : Int) (w : World) (hR : Rt Br typ e0 e1 e2 e3 e4 e5 e6 e7 e8 e9 tag hi lo gp label w) (h5 : e0 ≤ 5) (ht5 : typ ≠ 5) (ht1 : ¬ (typ = 1 ∧ tag = 4294967295)) :
    Calls Tryd.prog 10 #[.pointer (some ⟨Br, 0, none⟩), .pointer (some ⟨Ba, 0, none⟩)] w fun e w' => e = .returned (.int .u8 0) ∧ Below w.heap.size w w' := by
  obtain ⟨rt0, rt9, rt10, rt11, rt12, rt13, rt14, rt15, rt16, rt17, rt18, rt19, rt33, rt34, rt35, rt36⟩ := hR.all
  have hd : decide (e0 ≤ 5) = true := decide_eq_true h5
  have q5 : (typ == 5) = false := by simp [ht5]
  by_cases h1 : typ = 1
  · have hm : tag ≠ 4294967295 := fun e => ht1 ⟨h1, e⟩
    have q1 : (typ == 1) = true := by simp [h1]
    have q2 : (tag == 4294967295) = false := by simp [hm]
    go_enter Tryd.func10, Tryd.ntmps10
    go_wp2_with fail
    refine (known_any e0 e1 e2 e3 e4 e5 e6 e7 e8 e9 _).mono ?_
    rintro e w1 ⟨rfl, hb⟩
    have hR1 := hR.below hb (Nat.le_refl _)
    clear rt0 rt9 rt10 rt11 rt12 rt13 rt14 rt15 rt16 rt17 rt18 rt19 rt33 rt34 rt35 rt36 hR ht1 h1 hm ht5
    obtain ⟨rt0, rt9, rt10, rt11, rt12, rt13, rt14, rt15, rt16, rt17, rt18, rt19, rt33, rt34, rt35, rt36⟩ := hR1.all
    clear hR1
    go_wp2
    go_ret
    exact ⟨rfl, hb⟩
  · have q1 : (typ == 1) = false := by simp [h1]
    go_enter Tryd.func10, Tryd.ntmps10
    go_wp2_with fail
    refine (known_any e0 e1 e2 e3 e4 e5 e6 e7 e8 e9 _).mono ?_
    rintro e w1 ⟨rfl, hb⟩
    have hR1 := hR.below hb (Nat.le_refl _)
    clear rt0 rt9 rt10 rt11 rt12 rt13 rt14 rt15 rt16 rt17 rt18 rt19 rt33 rt34 rt35 rt36 hR ht1 h1 ht5
    obtain ⟨rt0, rt9, rt10, rt11, rt12, rt13, rt14, rt15, rt16, rt17, rt18, rt19, rt33, rt34, rt35, rt36⟩ := hR1.all
    clear hR1
    go_wp2
    go_ret
    exact ⟨rfl, hb⟩

end Go.Proofs.Qxb6003815aDoor
