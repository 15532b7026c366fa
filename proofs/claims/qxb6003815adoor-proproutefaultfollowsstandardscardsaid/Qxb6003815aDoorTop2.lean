/-
  The law's walk: what its boxes hold; the copy of the communities.
-/
import Derived.Test.Qxb6003815aDoorTop1
namespace Go.Proofs.Qxb6003815aDoor
open Go.ChangeShapes Go.WideShapes Go.ChangeAt Go.RowKit
set_option linter.unusedVariables false

/-- The four boxes of the parameters, in a later world. -/
structure Boxes (H : Nat) (d0 d1 d2 d3 d4 d5 d6 d7 e0 e1 e2 e3 e4 e5 e6 e7 e8 e9 m0 m1 m2 m3 m4 m5 g0 g1 g2 g3 g4 g5 g6 g7 g8 g9 g10 g11 g12 g13 g14 g15 : Int) (V : World) : Prop where
  bd : V.heap[H]? = some (.cells #[.int .u8 d0, .int .u8 d1, .int .u8 d2, .int .u8 d3, .int .u8 d4, .int .u8 d5, .int .u8 d6, .int .u8 d7] 22 (0, 0))
  be : V.heap[H + 1]? = some (.cells #[.int .u8 e0, .int .u8 e1, .int .u8 e2, .int .u8 e3, .int .u8 e4, .int .u8 e5, .int .u8 e6, .int .u8 e7, .int .u8 e8, .int .u8 e9] 23 (0, 0))
  bm : V.heap[H + 2]? = some (.cells #[.int .u8 m0, .int .u8 m1, .int .u8 m2, .int .u8 m3, .int .u8 m4, .int .u8 m5] 25 (0, 0))
  bg : V.heap[H + 3]? = some (.cells #[.int .u8 g0, .int .u8 g1, .int .u8 g2, .int .u8 g3, .int .u8 g4, .int .u8 g5, .int .u8 g6, .int .u8 g7, .int .u8 g8, .int .u8 g9, .int .u8 g10, .int .u8 g11, .int .u8 g12, .int .u8 g13, .int .u8 g14, .int .u8 g15] 26 (0, 0))

theorem Boxes.new (w : World) (d0 d1 d2 d3 d4 d5 d6 d7 e0 e1 e2 e3 e4 e5 e6 e7 e8 e9 m0 m1 m2 m3 m4 m5 g0 g1 g2 g3 g4 g5 g6 g7 g8 g9 g10 g11 g12 g13 g14 g15 : Int) : Boxes w.heap.size d0 d1 d2 d3 d4 d5 d6 d7 e0 e1 e2 e3 e4 e5 e6 e7 e8 e9 m0 m1 m2 m3 m4 m5 g0 g1 g2 g3 g4 g5 g6 g7 g8 g9 g10 g11 g12 g13 g14 g15 ((((w.alloc (.cells #[.int .u8 d0, .int .u8 d1, .int .u8 d2, .int .u8 d3, .int .u8 d4, .int .u8 d5, .int .u8 d6, .int .u8 d7] 22)).alloc (.cells #[.int .u8 e0, .int .u8 e1, .int .u8 e2, .int .u8 e3, .int .u8 e4, .int .u8 e5, .int .u8 e6, .int .u8 e7, .int .u8 e8, .int .u8 e9] 23)).alloc (.cells #[.int .u8 m0, .int .u8 m1, .int .u8 m2, .int .u8 m3, .int .u8 m4, .int .u8 m5] 25)).alloc (.cells #[.int .u8 g0, .int .u8 g1, .int .u8 g2, .int .u8 g3, .int .u8 g4, .int .u8 g5, .int .u8 g6, .int .u8 g7, .int .u8 g8, .int .u8 g9, .int .u8 g10, .int .u8 g11, .int .u8 g12, .int .u8 g13, .int .u8 g14, .int .u8 g15] 26)) := by
  have s1 : (w.alloc (.cells #[.int .u8 d0, .int .u8 d1, .int .u8 d2, .int .u8 d3, .int .u8 d4, .int .u8 d5, .int .u8 d6, .int .u8 d7] 22)).heap.size = w.heap.size + 1 := by simp
  have s2 : ((w.alloc (.cells #[.int .u8 d0, .int .u8 d1, .int .u8 d2, .int .u8 d3, .int .u8 d4, .int .u8 d5, .int .u8 d6, .int .u8 d7] 22)).alloc (.cells #[.int .u8 e0, .int .u8 e1, .int .u8 e2, .int .u8 e3, .int .u8 e4, .int .u8 e5, .int .u8 e6, .int .u8 e7, .int .u8 e8, .int .u8 e9] 23)).heap.size = w.heap.size + 2 := by simp
  have s3 : (((w.alloc (.cells #[.int .u8 d0, .int .u8 d1, .int .u8 d2, .int .u8 d3, .int .u8 d4, .int .u8 d5, .int .u8 d6, .int .u8 d7] 22)).alloc (.cells #[.int .u8 e0, .int .u8 e1, .int .u8 e2, .int .u8 e3, .int .u8 e4, .int .u8 e5, .int .u8 e6, .int .u8 e7, .int .u8 e8, .int .u8 e9] 23)).alloc (.cells #[.int .u8 m0, .int .u8 m1, .int .u8 m2, .int .u8 m3, .int .u8 m4, .int .u8 m5] 25)).heap.size = w.heap.size + 3 := by simp
  refine ⟨?_, ?_, ?_, ?_⟩
  · rw [Below.heap_alloc _ _ _ (by omega), Below.heap_alloc _ _ _ (by omega), Below.heap_alloc _ _ _ (by omega)]
    exact heap_alloc_new _ _
  · rw [Below.heap_alloc _ _ _ (by omega), Below.heap_alloc _ _ _ (by omega), ← s1]
    exact heap_alloc_new _ _
  · rw [Below.heap_alloc _ _ _ (by omega), ← s2]
    exact heap_alloc_new _ _
  · rw [← s3]
    exact heap_alloc_new _ _

theorem Boxes.below {H B : Nat} {d0 d1 d2 d3 d4 d5 d6 d7 e0 e1 e2 e3 e4 e5 e6 e7 e8 e9 m0 m1 m2 m3 m4 m5 g0 g1 g2 g3 g4 g5 g6 g7 g8 g9 g10 g11 g12 g13 g14 g15 : Int} {V V' : World} (h : Boxes H d0 d1 d2 d3 d4 d5 d6 d7 e0 e1 e2 e3 e4 e5 e6 e7 e8 e9 m0 m1 m2 m3 m4 m5 g0 g1 g2 g3 g4 g5 g6 g7 g8 g9 g10 g11 g12 g13 g14 g15 V) (hb : Below B V V') (hB : H + 4 ≤ B) : Boxes H d0 d1 d2 d3 d4 d5 d6 d7 e0 e1 e2 e3 e4 e5 e6 e7 e8 e9 m0 m1 m2 m3 m4 m5 g0 g1 g2 g3 g4 g5 g6 g7 g8 g9 g10 g11 g12 g13 g14 g15 V' :=
  ⟨(hb.block _ (by omega)).trans h.bd, (hb.block _ (by omega)).trans h.be, (hb.block _ (by omega)).trans h.bm, (hb.block _ (by omega)).trans h.bg⟩

theorem Tryd.info49 : (Tryd.prog.info? 49).map (fun i => (i.zero, i.size, i.bytes)) = some (some (.agg #[.int .u8 0, .int .u8 0, .int .u8 0, .int .u8 0, .int .u8 0, .int .u8 0, .int .u8 0, .int .u8 0]), 8, 8) := by kernel_rfl

/-- 'make([]ExtCommunity, n)'. -/
theorem make_com (n : Nat) (h : n ≤ 1048576) (w : World) :
    (Instr.makeSlice 27 (.int .i64 (n : Int)) (.int .i64 (n : Int))).run Tryd.prog w = .ok (.slice (some ⟨w.heap.size, 0, none⟩) n n) (w.alloc (.cells (madeCells #[.int .u8 0, .int .u8 0, .int .u8 0, .int .u8 0, .int .u8 0, .int .u8 0, .int .u8 0, .int .u8 0] (n * 8)) 49)) := by
  obtain ⟨i, hi, hzz⟩ := Option.map_eq_some_iff.1 Tryd.info49
  simp only [Prod.mk.injEq] at hzz
  obtain ⟨hz, hs, hb⟩ := hzz
  have hb' : (i.bytes : Int) * (n : Int) ≤ 281474976710656 := by rw [hb]; omega
  have hr := run_make (P := Tryd.prog) w 27 49 i _ Tryd.underlying27 hi hz .i64 .i64 n n (by omega) (Int.le_refl _) hb' (by omega)
  simp only [Int.toNat_natCast, hs] at hr
  exact hr

theorem rowIs_made_any (w : World) (cs : Array Value) (n : Nat) (t : TypeId) : ∃ g, (w.alloc (.cells (madeCells cs n) t)).rowIs w.heap.size t n g := by
  refine ⟨fun i => (madeCells cs n).getD i undef, _, Deep.blk_alloc_new _ _, size_madeCells _ _, fun i hi => ?_⟩
  have : i < (madeCells cs n).size := by rw [size_madeCells]; exact hi
  simp [Array.getD, this]

/-- The copy, its first k communities laid. -/
def Copy (b n k : Nat) (zs : List Int) (w : World) : Prop := ∃ g, w.rowIs b 49 (n * 8) g ∧ ∀ i j, i < k → j < 8 → g (i * 8 + j) = .int .u8 (cB zs i j)

theorem Copy.step {b n k : Nat} {zs : List Int} {w : World} {g : Nat → Value} (hg : w.rowIs b 49 (n * 8) g) (hgz : ∀ i j, i < k → j < 8 → g (i * 8 + j) = .int .u8 (cB zs i j))
    (x0 x1 x2 x3 x4 x5 x6 x7 : Int) (h0 : x0 = cB zs k 0) (h1 : x1 = cB zs k 1) (h2 : x2 = cB zs k 2) (h3 : x3 = cB zs k 3) (h4 : x4 = cB zs k 4) (h5 : x5 = cB zs k 5) (h6 : x6 = cB zs k 6) (h7 : x7 = cB zs k 7) :
    Copy b n (k + 1) zs ((((((((w.setCell ⟨b, k * 8, none⟩ (.int .u8 x0)).setCell ⟨b, k * 8 + 1, none⟩ (.int .u8 x1)).setCell ⟨b, k * 8 + 2, none⟩ (.int .u8 x2)).setCell ⟨b, k * 8 + 3, none⟩ (.int .u8 x3)).setCell ⟨b, k * 8 + 4, none⟩ (.int .u8 x4)).setCell ⟨b, k * 8 + 5, none⟩ (.int .u8 x5)).setCell ⟨b, k * 8 + 6, none⟩ (.int .u8 x6)).setCell ⟨b, k * 8 + 7, none⟩ (.int .u8 x7)) := by
  refine ⟨_, (((((((hg.set _ _).set _ _).set _ _).set _ _).set _ _).set _ _).set _ _).set _ _, fun i j hi hj => ?_⟩
  by_cases e : i = k
  · subst e
    rcases (show j = 0 ∨ j = 1 ∨ j = 2 ∨ j = 3 ∨ j = 4 ∨ j = 5 ∨ j = 6 ∨ j = 7 by omega) with rfl | rfl | rfl | rfl | rfl | rfl | rfl | rfl <;> simp_all
  · rw [if_neg (by omega), if_neg (by omega), if_neg (by omega), if_neg (by omega), if_neg (by omega), if_neg (by omega), if_neg (by omega), if_neg (by omega)]
    exact hgz i j (by omega) hj

theorem Copy.rows {b n : Nat} {zs : List Int} {w : World} (h : Copy b n n zs w) (hbd : ∀ i j, 0 ≤ cB zs i j ∧ cB zs i j ≤ 255) : Rows8 b 0 n zs w := by
  obtain ⟨g, hg, hz⟩ := h
  refine ⟨fun i j hi hj => ?_, hbd⟩
  rw [Nat.zero_add, hg.cell (by omega), hz i j hi hj]

end Go.Proofs.Qxb6003815aDoor
