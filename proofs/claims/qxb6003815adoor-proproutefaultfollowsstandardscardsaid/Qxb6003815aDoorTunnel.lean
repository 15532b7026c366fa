/-
  '(bigEndian).Uint16' and '(ExtCommunity).TunnelType'.
-/
import Derived.Test.Qxb6003815aDoorFirst
namespace Go.Proofs.Qxb6003815aDoor
open Go.ChangeShapes Go.WideShapes Go.ChangeAt Go.RowKit
set_option linter.unusedVariables false

set_option maxRecDepth 100000 in
set_option maxHeartbeats 1600000 in
theorem u16_any (g o : Nat) (b0 b1 : Int) (w : World) (h0 : 0 ≤ b0 ∧ b0 ≤ 255) (h1 : 0 ≤ b1 ∧ b1 ≤ 255)
    (c0 : w.cell? ⟨g, o, none⟩ = some (.int .u8 b0)) (c1 : w.cell? ⟨g, o + 1, none⟩ = some (.int .u8 b1)) :
    Calls Tryd.prog 25 #[.agg #[], .slice (some ⟨g, o, none⟩) 2 2] w fun e w' => e = .returned (.int .u16 (b0 * 256 + b1)) ∧ Below w.heap.size w w' := by
  obtain ⟨p0, r0⟩ := h0
  obtain ⟨p1, r1⟩ := h1
  have hg : g < w.heap.size := World.block_lt_of_cell? w ⟨g, o, none⟩ c0
  have d0 : (w.alloc (.cells #[] 91)).cell? ⟨g, o, none⟩ = some (.int .u8 b0) := by rw [World.cell?_alloc_past _ _ _ hg]; exact c0
  have d1 : (w.alloc (.cells #[] 91)).cell? ⟨g, o + 1, none⟩ = some (.int .u8 b1) := by rw [World.cell?_alloc_past _ _ _ hg]; exact c1
  have hor : bits .or .u16 b1 (b0 * 256) = b1 + b0 * 256 := u16_or8 (y := b1) (x := b0 * 256) (by omega) (by omega) (by omega) (by omega) (by omega)
  go_enter Tryd.func25, Tryd.ntmps25
  go_wp2
  go_region
  go_wp2
  go_ret
  refine ⟨?_, ((Below.refl _ w).alloc (Nat.le_refl _) _).drew⟩
  have e : b0 * 256 + b1 = b1 + b0 * 256 := by omega
  rw [e]
  rfl

set_option maxRecDepth 100000 in
set_option maxHeartbeats 1600000 in
theorem tt_no (x0 x1 x2 x3 x4 x5 x6 x7 : Int) (a4 a6 : Addr) (w : World) (hG : Glob a4 a6 w) (h1 : 0 ≤ x1 ∧ x1 ≤ 255) (hk : kindOf x0 x1 ≠ 2) :
    Calls Tryd.prog 24 #[.agg #[.int .u8 x0, .int .u8 x1, .int .u8 x2, .int .u8 x3, .int .u8 x4, .int .u8 x5, .int .u8 x6, .int .u8 x7]] w fun e w' => e = .returned (.tuple #[.int .u16 0, .bool false]) ∧ Below w.heap.size w w' := by
  have hB0 : Below w.heap.size w (w.alloc (.cells #[.int .u8 x0, .int .u8 x1, .int .u8 x2, .int .u8 x3, .int .u8 x4, .int .u8 x5, .int .u8 x6, .int .u8 x7] 49)) := (Below.refl _ w).alloc (Nat.le_refl _) _
  have hG0 := hG.below hB0 (Nat.le_refl _)
  have hsz := hG.size
  have hk' : (kindOf x0 x1 != 2) = true := by simp [hk]
  clear hG hk
  go_enter Tryd.func24, Tryd.ntmps24
  go_wp2_with fail
  refine (kind_any x0 x1 x2 x3 x4 x5 x6 x7 _ hG0.kinds (by simp; omega) h1.1 h1.2).mono ?_
  rintro e w1 ⟨rfl, hb⟩
  have hB1 : Below w.heap.size w w1 := hB0.trans (hb.mono (by simp))
  clear hG0 hb
  go_wp2
  go_ret2
  exact ⟨rfl, hB1⟩

set_option maxRecDepth 100000 in
set_option maxHeartbeats 1600000 in
theorem tt_yes (x0 x1 x2 x3 x4 x5 x6 x7 : Int) (a4 a6 : Addr) (w : World) (hG : Glob a4 a6 w) (h1 : 0 ≤ x1 ∧ x1 ≤ 255) (h6 : 0 ≤ x6 ∧ x6 ≤ 255) (h7 : 0 ≤ x7 ∧ x7 ≤ 255) (hk : kindOf x0 x1 = 2) :
    Calls Tryd.prog 24 #[.agg #[.int .u8 x0, .int .u8 x1, .int .u8 x2, .int .u8 x3, .int .u8 x4, .int .u8 x5, .int .u8 x6, .int .u8 x7]] w fun e w' => e = .returned (.tuple #[.int .u16 (x6 * 256 + x7), .bool true]) ∧ Below w.heap.size w w' := by
  have hB0 : Below w.heap.size w (w.alloc (.cells #[.int .u8 x0, .int .u8 x1, .int .u8 x2, .int .u8 x3, .int .u8 x4, .int .u8 x5, .int .u8 x6, .int .u8 x7] 49)) := (Below.refl _ w).alloc (Nat.le_refl _) _
  have hG0 := hG.below hB0 (Nat.le_refl _)
  have hsz := hG.size
  have hk' : (kindOf x0 x1 != 2) = false := by simp [hk]
  clear hG hk
  go_enter Tryd.func24, Tryd.ntmps24
  go_wp2_with fail
  refine (kind_any x0 x1 x2 x3 x4 x5 x6 x7 _ hG0.kinds (by simp; omega) h1.1 h1.2).mono ?_
  rintro e w1 ⟨rfl, hb⟩
  have hb' : Below (w.heap.size + 1) (w.alloc (.cells #[.int .u8 x0, .int .u8 x1, .int .u8 x2, .int .u8 x3, .int .u8 x4, .int .u8 x5, .int .u8 x6, .int .u8 x7] 49)) w1 := by simpa using hb
  have hbox : w1.heap[w.heap.size]? = some (.cells #[.int .u8 x0, .int .u8 x1, .int .u8 x2, .int .u8 x3, .int .u8 x4, .int .u8 x5, .int .u8 x6, .int .u8 x7] 49 (0, 0)) := (hb'.block _ (by omega)).trans (heap_alloc_new _ _)
  obtain ⟨p0, p1, p2, p3, p4, p5, p6, p7⟩ := cells8 hbox
  have hB1 : Below w.heap.size w w1 := hB0.trans (hb'.mono (by omega))
  clear hG0 hb
  go_wp2
  go_region_with ((go_at_call 25; refine (u16_any w.heap.size 6 x6 x7 _ h6 h7 ?_ ?_).mono ?_; exact p6; exact p7; rintro e w2 ⟨rfl, hb2⟩))
  all_goals
    go_wp2
    go_ret2
    exact ⟨rfl, (hB1.drew).trans (hb2.mono (by have := hB1.size; simpa using this))⟩

end Go.Proofs.Qxb6003815aDoor
