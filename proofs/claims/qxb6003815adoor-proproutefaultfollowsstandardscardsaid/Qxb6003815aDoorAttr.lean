/-
  '(*Attributes).RouterMAC', '(*Attributes).ESILabel', 'label'.
-/
import Derived.Test.Qxb6003815aDoorFirst
namespace Go.Proofs.Qxb6003815aDoor
open Go.ChangeShapes Go.WideShapes Go.ChangeAt Go.RowKit
set_option linter.unusedVariables false

set_option maxRecDepth 100000 in
set_option maxHeartbeats 1600000 in
theorem rmac_any (Ba n cap : Nat) (ad : Option Addr) (zs : List Int) (a4 a6 : Addr) (w : World) (hn : n ≤ 65536) (hA : Attr Ba ad n cap zs w) (hG : Glob a4 a6 w) :
    Calls Tryd.prog 14 #[.pointer (some ⟨Ba, 0, none⟩)] w fun e w' => Below w.heap.size w w' ∧ ∃ (y0 y1 y2 y3 y4 y5 : Int) (ok : Bool),
      e = .returned (.tuple #[.agg #[.int .u8 y0, .int .u8 y1, .int .u8 y2, .int .u8 y3, .int .u8 y4, .int .u8 y5], .bool ok]) ∧
      ((ok = true ∧ ∃ i, i < n ∧ kindOf (cB zs i 0) (cB zs i 1) = 7) ∨ (ok = false ∧ NoneOf zs 7 n)) := by
  have hB0 : Below w.heap.size w (w.alloc (.cells #[.int .u8 0, .int .u8 0, .int .u8 0, .int .u8 0, .int .u8 0, .int .u8 0] 32)) := (Below.refl _ w).alloc (Nat.le_refl _) _
  have hA0 := hA.below hB0 (Nat.le_refl _)
  have hG0 := hG.below hB0 (Nat.le_refl _)
  clear hA hG
  have hat : ∀ (g : Nat) (w : World), (Instr.arrayAt 32 (.slice (some ⟨g, 2, none⟩) 6 6)).run Tryd.prog w = .ok (.pointer (some ⟨g, 2, none⟩)) w := fun g w => by simp [Instr.arrayAt, run_underlying Tryd.underlying32]
  go_enter Tryd.func14, Tryd.ntmps14
  go_wp2_with fail
  refine (first_any Ba n cap ad zs 7 a4 a6 _ hn hA0 hG0).mono ?_
  rintro e w1 ⟨hb, hr⟩
  have hb' : Below (w.heap.size + 1) (w.alloc (.cells #[.int .u8 0, .int .u8 0, .int .u8 0, .int .u8 0, .int .u8 0, .int .u8 0] 32)) w1 := by simpa using hb
  have hR : w1.heap[w.heap.size]? = some (.cells #[.int .u8 0, .int .u8 0, .int .u8 0, .int .u8 0, .int .u8 0, .int .u8 0] 32 (0, 0)) := (hb'.block _ (by omega)).trans (heap_alloc_new _ _)
  have hBw : Below w.heap.size w w1 := hB0.trans (hb'.mono (by omega))
  have hlt := lt_of_block hR
  obtain ⟨x0, x1, x2, x3, x4, x5, x6, x7, ok, rfl, hok⟩ : ∃ (x0 x1 x2 x3 x4 x5 x6 x7 : Int) (ok : Bool), e = .returned (.tuple #[.agg #[.int .u8 x0, .int .u8 x1, .int .u8 x2, .int .u8 x3, .int .u8 x4, .int .u8 x5, .int .u8 x6, .int .u8 x7], .bool ok]) ∧ ((ok = true ∧ ∃ i, i < n ∧ kindOf (cB zs i 0) (cB zs i 1) = 7) ∨ (ok = false ∧ NoneOf zs 7 n)) := by
    rcases hr with ⟨i, hi, _, hk, rfl⟩ | ⟨hno, rfl⟩
    · exact ⟨_, _, _, _, _, _, _, _, _, rfl, Or.inl ⟨rfl, i, hi, hk⟩⟩
    · exact ⟨_, _, _, _, _, _, _, _, _, rfl, Or.inr ⟨rfl, hno⟩⟩
  obtain ⟨W1, hW1⟩ : ∃ W1, w1.alloc (.cells #[.int .u8 x0, .int .u8 x1, .int .u8 x2, .int .u8 x3, .int .u8 x4, .int .u8 x5, .int .u8 x6, .int .u8 x7] 49) = W1 := ⟨_, rfl⟩
  have hbox : W1.heap[w1.heap.size]? = some (.cells #[.int .u8 x0, .int .u8 x1, .int .u8 x2, .int .u8 x3, .int .u8 x4, .int .u8 x5, .int .u8 x6, .int .u8 x7] 49 (0, 0)) := by rw [← hW1]; exact heap_alloc_new _ _
  have hR1 : W1.heap[w.heap.size]? = some (.cells #[.int .u8 0, .int .u8 0, .int .u8 0, .int .u8 0, .int .u8 0, .int .u8 0] 32 (0, 0)) := by rw [← hW1]; exact (Below.heap_alloc _ _ _ hlt).trans hR
  have hBW : Below w.heap.size w W1 := by rw [← hW1]; exact hBw.alloc (by omega) _
  obtain ⟨p0, p1, p2, p3, p4, p5, p6, p7⟩ := cells8 hbox
  have r0 : W1.cell? ⟨w.heap.size, 0, none⟩ = some (.int .u8 0) := by simp [World.cell?, hR1]
  have r1 : W1.cell? ⟨w.heap.size, 1, none⟩ = some (.int .u8 0) := by simp [World.cell?, hR1]
  have r2 : W1.cell? ⟨w.heap.size, 2, none⟩ = some (.int .u8 0) := by simp [World.cell?, hR1]
  have r3 : W1.cell? ⟨w.heap.size, 3, none⟩ = some (.int .u8 0) := by simp [World.cell?, hR1]
  have r4 : W1.cell? ⟨w.heap.size, 4, none⟩ = some (.int .u8 0) := by simp [World.cell?, hR1]
  have r5 : W1.cell? ⟨w.heap.size, 5, none⟩ = some (.int .u8 0) := by simp [World.cell?, hR1]
  have z := free_of_block hR1
  have z0 := z 0
  have z1 := z 1
  have z2 := z 2
  have z3 := z 3
  have z4 := z 4
  have z5 := z 5
  have HOK : Hid ((ok = true ∧ ∃ i, i < n ∧ kindOf (cB zs i 0) (cB zs i 1) = 7) ∨ (ok = false ∧ NoneOf zs 7 n)) := hok
  clear hr hb hb' hR hok z hA0 hG0 hB0 hbox hR1 hBw
  go_wp2
  exact bodyPost_ret (v := .tuple #[.agg #[.int .u8 x2, .int .u8 x3, .int .u8 x4, .int .u8 x5, .int .u8 x6, .int .u8 x7], .bool ok]) (by simp [results, Tryd.results14, go_sem, r0, r1, r2, r3, r4, r5]) rfl
    ⟨((((((hBW.setCell (p := ⟨w.heap.size, 0, none⟩) (Nat.le_refl _) _).setCell (p := ⟨w.heap.size, 1, none⟩) (Nat.le_refl _) _).setCell (p := ⟨w.heap.size, 2, none⟩) (Nat.le_refl _) _).setCell (p := ⟨w.heap.size, 3, none⟩) (Nat.le_refl _) _).setCell (p := ⟨w.heap.size, 4, none⟩) (Nat.le_refl _) _).setCell (p := ⟨w.heap.size, 5, none⟩) (Nat.le_refl _) _), x2, x3, x4, x5, x6, x7, ok, rfl, HOK.out⟩

set_option maxRecDepth 100000 in
set_option maxHeartbeats 1600000 in
theorem label_any (g o n c : Nat) (b0 b1 b2 : Int) (w : World) (hn : 3 ≤ n) (h0 : 0 ≤ b0 ∧ b0 ≤ 255) (h1 : 0 ≤ b1 ∧ b1 ≤ 255) (h2 : 0 ≤ b2 ∧ b2 ≤ 255)
    (c0 : w.cell? ⟨g, o, none⟩ = some (.int .u8 b0)) (c1 : w.cell? ⟨g, o + 1, none⟩ = some (.int .u8 b1)) (c2 : w.cell? ⟨g, o + 2, none⟩ = some (.int .u8 b2)) :
    Calls Tryd.prog 20 #[.slice (some ⟨g, o, none⟩) n c] w fun e w' => ∃ v : Int, e = .returned (.int .u32 v) ∧ ∃ n, w' = w.drewN n := by
  obtain ⟨p0, r0⟩ := h0
  obtain ⟨p1, r1⟩ := h1
  obtain ⟨p2, r2⟩ := h2
  have q0 : 0 < n := by omega
  have q1 : (1 : Int) < (n : Int) := by omega
  have q2 : (2 : Int) < (n : Int) := by omega
  go_enter Tryd.func20, Tryd.ntmps20
  go_wp2
  go_quiet (fail)
  go_wp2
  go_ret
  exact ⟨_, rfl, _, rfl⟩

set_option maxRecDepth 100000 in
set_option maxHeartbeats 1600000 in
theorem esil_any (Ba n cap : Nat) (ad : Option Addr) (zs : List Int) (a4 a6 : Addr) (w : World) (hn : n ≤ 65536) (hA : Attr Ba ad n cap zs w) (hG : Glob a4 a6 w) (hbd : ∀ i j, 0 ≤ cB zs i j ∧ cB zs i j ≤ 255) :
    Calls Tryd.prog 15 #[.pointer (some ⟨Ba, 0, none⟩)] w fun e w' => Below w.heap.size w w' ∧ ∃ (m s l : Int) (ok : Bool),
      e = .returned (.tuple #[.agg #[.int .u8 m, .int .u8 s, .int .u32 l], .bool ok]) ∧
      ((ok = true ∧ ∃ i, i < n ∧ NoneOf zs 5 i ∧ kindOf (cB zs i 0) (cB zs i 1) = 5 ∧ m = bits .and .u8 (cB zs i 2) 3 ∧ s = cB zs i 2 / 64) ∨ (ok = false ∧ NoneOf zs 5 n)) := by
  have hB0 : Below w.heap.size w (w.alloc (.cells #[.int .u8 0, .int .u8 0, .int .u32 0] 73)) := (Below.refl _ w).alloc (Nat.le_refl _) _
  have hA0 := hA.below hB0 (Nat.le_refl _)
  have hG0 := hG.below hB0 (Nat.le_refl _)
  clear hA hG
  go_enter Tryd.func15, Tryd.ntmps15
  go_wp2_with fail
  refine (first_any Ba n cap ad zs 5 a4 a6 _ hn hA0 hG0).mono ?_
  rintro e w1 ⟨hb, hr⟩
  have hb' : Below (w.heap.size + 1) (w.alloc (.cells #[.int .u8 0, .int .u8 0, .int .u32 0] 73)) w1 := by simpa using hb
  have hR : w1.heap[w.heap.size]? = some (.cells #[.int .u8 0, .int .u8 0, .int .u32 0] 73 (0, 0)) := (hb'.block _ (by omega)).trans (heap_alloc_new _ _)
  have hBw : Below w.heap.size w w1 := hB0.trans (hb'.mono (by omega))
  have hlt := lt_of_block hR
  obtain ⟨x0, x1, x2, x3, x4, x5, x6, x7, ok, rfl, hbx, hok⟩ : ∃ (x0 x1 x2 x3 x4 x5 x6 x7 : Int) (ok : Bool), e = .returned (.tuple #[.agg #[.int .u8 x0, .int .u8 x1, .int .u8 x2, .int .u8 x3, .int .u8 x4, .int .u8 x5, .int .u8 x6, .int .u8 x7], .bool ok]) ∧ ((0 ≤ x2 ∧ x2 ≤ 255) ∧ (0 ≤ x5 ∧ x5 ≤ 255) ∧ (0 ≤ x6 ∧ x6 ≤ 255) ∧ (0 ≤ x7 ∧ x7 ≤ 255)) ∧
      ((ok = true ∧ ∃ i, i < n ∧ NoneOf zs 5 i ∧ kindOf (cB zs i 0) (cB zs i 1) = 5 ∧ x2 = cB zs i 2) ∨ (ok = false ∧ NoneOf zs 5 n)) := by
    rcases hr with ⟨i, hi, hno, hk, rfl⟩ | ⟨hno, rfl⟩
    · exact ⟨_, _, _, _, _, _, _, _, _, rfl, ⟨hbd i 2, hbd i 5, hbd i 6, hbd i 7⟩, Or.inl ⟨rfl, i, hi, hno, hk, rfl⟩⟩
    · exact ⟨_, _, _, _, _, _, _, _, _, rfl, by omega, Or.inr ⟨rfl, hno⟩⟩
  obtain ⟨W1, hW1⟩ : ∃ W1, w1.alloc (.cells #[.int .u8 x0, .int .u8 x1, .int .u8 x2, .int .u8 x3, .int .u8 x4, .int .u8 x5, .int .u8 x6, .int .u8 x7] 49) = W1 := ⟨_, rfl⟩
  have hbox : W1.heap[w1.heap.size]? = some (.cells #[.int .u8 x0, .int .u8 x1, .int .u8 x2, .int .u8 x3, .int .u8 x4, .int .u8 x5, .int .u8 x6, .int .u8 x7] 49 (0, 0)) := by rw [← hW1]; exact heap_alloc_new _ _
  have hR1 : W1.heap[w.heap.size]? = some (.cells #[.int .u8 0, .int .u8 0, .int .u32 0] 73 (0, 0)) := by rw [← hW1]; exact (Below.heap_alloc _ _ _ hlt).trans hR
  have hBW : Below w.heap.size w W1 := by rw [← hW1]; exact hBw.alloc (by omega) _
  obtain ⟨p0, p1, p2, p3, p4, p5, p6, p7⟩ := cells8 hbox
  have r0 : W1.cell? ⟨w.heap.size, 0, none⟩ = some (.int .u8 0) := by simp [World.cell?, hR1]
  have r1 : W1.cell? ⟨w.heap.size, 1, none⟩ = some (.int .u8 0) := by simp [World.cell?, hR1]
  have r2 : W1.cell? ⟨w.heap.size, 2, none⟩ = some (.int .u32 0) := by simp [World.cell?, hR1]
  have z := free_of_block hR1
  have z0 := z 0
  have z1 := z 1
  have z2 := z 2
  have HOK : Hid ((ok = true ∧ ∃ i, i < n ∧ NoneOf zs 5 i ∧ kindOf (cB zs i 0) (cB zs i 1) = 5 ∧ x2 = cB zs i 2) ∨ (ok = false ∧ NoneOf zs 5 n)) := hok
  obtain ⟨hx2, hx5, hx6, hx7⟩ := hbx
  obtain ⟨hx20, hx21⟩ := hx2
  have hne : w1.heap.size ≠ w.heap.size := by omega
  clear hr hb hb' hR hok z hA0 hG0 hB0 hbd hbox hR1 hBw
  go_wp2
  go_region_held3 (fun w' => w'.cell? ⟨w1.heap.size, 2, none⟩ = some (.int .u8 x2)) (first | go_keep | (show World.cell? _ _ = _; rw [World.cell?_of_block (w := W1) (by show (World.setCell (World.setCell (World.setCell _ _ _) _ _) _ _).heap[w1.heap.size]? = _; rw [Deep.blk_setCell_other _ _ _ _ hne, Deep.blk_setCell_other _ _ _ _ hne, Deep.blk_setCell_other _ _ _ _ hne]; rfl)]; exact p2)) ((go_at_call 20; refine (label_any w1.heap.size 5 3 3 x5 x6 x7 _ (by omega) hx5 hx6 hx7 ?_ ?_ ?_).mono ?_; exact p5; exact p6; exact p7; rintro e w' ⟨lv, rfl, nd, rfl⟩))
  all_goals go_wp2
  refine bodyPost_ret (v := .tuple #[.agg #[.int .u8 (bits .and .u8 x2 3), .int .u8 (x2 / 64), .int .u32 lv], .bool ok]) (by simp [results, Tryd.results15, go_sem, r0, r1, r2]) rfl
    ⟨(((bel_drewN hBW _).setCell (p := ⟨w.heap.size, 0, none⟩) (Nat.le_refl _) _).setCell (p := ⟨w.heap.size, 1, none⟩) (Nat.le_refl _) _).setCell (p := ⟨w.heap.size, 2, none⟩) (Nat.le_refl _) _, _, _, _, ok, rfl, ?_⟩
  rcases HOK.out with ⟨e1, i, hi, hno, hk, hx⟩ | h
  · exact Or.inl ⟨e1, i, hi, hno, hk, by rw [hx], by rw [hx]⟩
  · exact Or.inr h

end Go.Proofs.Qxb6003815aDoor
