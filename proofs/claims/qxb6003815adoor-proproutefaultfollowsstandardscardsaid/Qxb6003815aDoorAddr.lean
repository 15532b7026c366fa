/-
  net/netip on the road: AddrFrom4, AddrFrom16, IsUnspecified.
-/
import Derived.Test.Qxb6003815aDoorLeaf
import Derived.Lib.EndianBits
import Derived.Deep.Draws
import Derived.Deep.RegionWith
import Derived.Deep.RegionHeld3
namespace Go.Proofs.Qxb6003815aDoor
open Go.ChangeShapes Go.WideShapes Go.ChangeAt Go.RowKit
set_option linter.unusedVariables false

theorem bel_drewN {B : Nat} {a w : World} (h : Below B a w) (n : Nat) : Below B a (w.drewN n) := h.trans ⟨rfl, rfl, rfl, Nat.le_refl _, fun _ _ => rfl⟩

theorem or_turn (k : IntKind) (x y : Int) : bits .or k x y = bits .or k y x := by simp only [bits, BitVec.or_comm]

/-- The low half of an IPv4 address. -/
def lo4 (g0 g1 g2 g3 : Int) : Int := 281470681743360 + g0 * 16777216 + g1 * 65536 + g2 * 256 + g3

theorem lo4_bits (g0 g1 g2 g3 : Int) (h0 : 0 ≤ g0 ∧ g0 ≤ 255) (h1 : 0 ≤ g1 ∧ g1 ≤ 255) (h2 : 0 ≤ g2 ∧ g2 ≤ 255) (h3 : 0 ≤ g3 ∧ g3 ≤ 255) :
    bits .or .u64 (bits .or .u64 (bits .or .u64 (bits .or .u64 281470681743360 (g0 * 16777216)) (g1 * 65536)) (g2 * 256)) g3 = lo4 g0 g1 g2 g3 := by
  have e1 : bits .or .u64 281470681743360 (g0 * 16777216) = 281470681743360 + g0 * 16777216 :=
    (or_turn _ _ _).trans ((u64_or32 (y := g0 * 16777216) (x := 281470681743360) (by omega) (by omega) (by omega) (by omega) (by omega)).trans (by omega))
  have e2 : bits .or .u64 (281470681743360 + g0 * 16777216) (g1 * 65536) = 281470681743360 + g0 * 16777216 + g1 * 65536 :=
    (or_turn _ _ _).trans ((u64_or24 (y := g1 * 65536) (x := 281470681743360 + g0 * 16777216) (by omega) (by omega) (by omega) (by omega) (by omega)).trans (by omega))
  have e3 : bits .or .u64 (281470681743360 + g0 * 16777216 + g1 * 65536) (g2 * 256) = 281470681743360 + g0 * 16777216 + g1 * 65536 + g2 * 256 :=
    (or_turn _ _ _).trans ((u64_or16 (y := g2 * 256) (x := 281470681743360 + g0 * 16777216 + g1 * 65536) (by omega) (by omega) (by omega) (by omega) (by omega)).trans (by omega))
  have e4 : bits .or .u64 (281470681743360 + g0 * 16777216 + g1 * 65536 + g2 * 256) g3 = 281470681743360 + g0 * 16777216 + g1 * 65536 + g2 * 256 + g3 :=
    (or_turn _ _ _).trans ((u64_or8 (y := g3) (x := 281470681743360 + g0 * 16777216 + g1 * 65536 + g2 * 256) (by omega) (by omega) (by omega) (by omega) (by omega)).trans (by omega))
  rw [e1, e2, e3, e4]
  rfl

set_option maxRecDepth 100000 in
set_option maxHeartbeats 800000 in
theorem from4_any (g0 g1 g2 g3 : Int) (a4 : Addr) (w : World) (h0 : 0 ≤ g0 ∧ g0 ≤ 255) (h1 : 0 ≤ g1 ∧ g1 ≤ 255) (h2 : 0 ≤ g2 ∧ g2 ≤ 255) (h3 : 0 ≤ g3 ∧ g3 ≤ 255)
    (hz : w.cell? ⟨0, 0, none⟩ = some (.pointer (some a4))) (hw : 0 < w.heap.size) :
    Calls Tryd.prog 5 #[.agg #[.int .u8 g0, .int .u8 g1, .int .u8 g2, .int .u8 g3]] w fun e w' => e = .returned (.agg #[.int .u64 0, .int .u64 (lo4 g0 g1 g2 g3), .pointer (some a4)]) ∧ Below w.heap.size w w' := by
  have hb := lo4_bits g0 g1 g2 g3 h0 h1 h2 h3
  obtain ⟨a, a'⟩ := h0
  obtain ⟨b, b'⟩ := h1
  obtain ⟨c, c'⟩ := h2
  obtain ⟨d, d'⟩ := h3
  go_enter Tryd.func5, Tryd.ntmps5
  go_wp2
  exact bodyPost_ret (v := .agg #[.int .u64 0, .int .u64 (lo4 g0 g1 g2 g3), .pointer (some a4)]) (by simp [results, Tryd.results5, go_sem]) rfl ⟨rfl, ((Below.refl _ _).alloc (Nat.le_refl _) _).alloc (by simp) _⟩

/-- The number that eight octets spell. -/
def be8 (b0 b1 b2 b3 b4 b5 b6 b7 : Int) : Int :=
  b7 + b6 * 256 + b5 * 65536 + b4 * 16777216 + b3 * 4294967296 + b2 * 1099511627776 + b1 * 281474976710656 + b0 * 72057594037927936

set_option maxRecDepth 100000 in
set_option maxHeartbeats 1600000 in
theorem be_any (g o n c : Nat) (b0 b1 b2 b3 b4 b5 b6 b7 : Int) (w : World) (hn : 8 ≤ n)
    (h0 : 0 ≤ b0 ∧ b0 ≤ 255) (h1 : 0 ≤ b1 ∧ b1 ≤ 255) (h2 : 0 ≤ b2 ∧ b2 ≤ 255) (h3 : 0 ≤ b3 ∧ b3 ≤ 255) (h4 : 0 ≤ b4 ∧ b4 ≤ 255) (h5 : 0 ≤ b5 ∧ b5 ≤ 255) (h6 : 0 ≤ b6 ∧ b6 ≤ 255) (h7 : 0 ≤ b7 ∧ b7 ≤ 255)
    (c0 : w.cell? ⟨g, o, none⟩ = some (.int .u8 b0)) (c1 : w.cell? ⟨g, o + 1, none⟩ = some (.int .u8 b1)) (c2 : w.cell? ⟨g, o + 2, none⟩ = some (.int .u8 b2)) (c3 : w.cell? ⟨g, o + 3, none⟩ = some (.int .u8 b3))
    (c4 : w.cell? ⟨g, o + 4, none⟩ = some (.int .u8 b4)) (c5 : w.cell? ⟨g, o + 5, none⟩ = some (.int .u8 b5)) (c6 : w.cell? ⟨g, o + 6, none⟩ = some (.int .u8 b6)) (c7 : w.cell? ⟨g, o + 7, none⟩ = some (.int .u8 b7)) :
    Calls Tryd.prog 9 #[.slice (some ⟨g, o, none⟩) n c] w fun e w' => e = .returned (.int .u64 (be8 b0 b1 b2 b3 b4 b5 b6 b7)) ∧ ∃ n, w' = w.drewN n := by
  obtain ⟨p0, r0⟩ := h0
  obtain ⟨p1, r1⟩ := h1
  obtain ⟨p2, r2⟩ := h2
  obtain ⟨p3, r3⟩ := h3
  obtain ⟨p4, r4⟩ := h4
  obtain ⟨p5, r5⟩ := h5
  obtain ⟨p6, r6⟩ := h6
  obtain ⟨p7, r7⟩ := h7
  have q0 : 0 < n := by omega
  have q1 : (1 : Int) < (n : Int) := by omega
  have q2 : (2 : Int) < (n : Int) := by omega
  have q3 : (3 : Int) < (n : Int) := by omega
  have q4 : (4 : Int) < (n : Int) := by omega
  have q5 : (5 : Int) < (n : Int) := by omega
  have q6 : (6 : Int) < (n : Int) := by omega
  have q7 : (7 : Int) < (n : Int) := by omega
  go_enter Tryd.func9, Tryd.ntmps9
  go_wp2
  go_quiet (fail)
  go_wp2
  go_ret
  refine ⟨?_, _, rfl⟩
  simp (disch := omega) only [u64_or8, u64_or16, u64_or24, u64_or32, u64_or40, u64_or48, u64_or56]
  rfl

set_option maxRecDepth 100000 in
set_option maxHeartbeats 1600000 in
theorem from16_any (g0 g1 g2 g3 g4 g5 g6 g7 g8 g9 g10 g11 g12 g13 g14 g15 : Int) (a6 : Addr) (w : World) (h0 : 0 ≤ g0 ∧ g0 ≤ 255) (h1 : 0 ≤ g1 ∧ g1 ≤ 255) (h2 : 0 ≤ g2 ∧ g2 ≤ 255) (h3 : 0 ≤ g3 ∧ g3 ≤ 255) (h4 : 0 ≤ g4 ∧ g4 ≤ 255) (h5 : 0 ≤ g5 ∧ g5 ≤ 255) (h6 : 0 ≤ g6 ∧ g6 ≤ 255) (h7 : 0 ≤ g7 ∧ g7 ≤ 255) (h8 : 0 ≤ g8 ∧ g8 ≤ 255) (h9 : 0 ≤ g9 ∧ g9 ≤ 255) (h10 : 0 ≤ g10 ∧ g10 ≤ 255) (h11 : 0 ≤ g11 ∧ g11 ≤ 255) (h12 : 0 ≤ g12 ∧ g12 ≤ 255) (h13 : 0 ≤ g13 ∧ g13 ≤ 255) (h14 : 0 ≤ g14 ∧ g14 ≤ 255) (h15 : 0 ≤ g15 ∧ g15 ≤ 255)
    (hz : w.cell? ⟨1, 0, none⟩ = some (.pointer (some a6))) (hw : 1 < w.heap.size) :
    Calls Tryd.prog 6 #[.agg #[.int .u8 g0, .int .u8 g1, .int .u8 g2, .int .u8 g3, .int .u8 g4, .int .u8 g5, .int .u8 g6, .int .u8 g7, .int .u8 g8, .int .u8 g9, .int .u8 g10, .int .u8 g11, .int .u8 g12, .int .u8 g13, .int .u8 g14, .int .u8 g15]] w fun e w' => e = .returned (.agg #[.int .u64 (be8 g0 g1 g2 g3 g4 g5 g6 g7), .int .u64 (be8 g8 g9 g10 g11 g12 g13 g14 g15), .pointer (some a6)]) ∧ Below w.heap.size w w' := by
  obtain ⟨W, hW⟩ : ∃ W, W = (w.alloc (.cells #[.int .u8 g0, .int .u8 g1, .int .u8 g2, .int .u8 g3, .int .u8 g4, .int .u8 g5, .int .u8 g6, .int .u8 g7, .int .u8 g8, .int .u8 g9, .int .u8 g10, .int .u8 g11, .int .u8 g12, .int .u8 g13, .int .u8 g14, .int .u8 g15] 26)).alloc (.cells #[.int .u64 0, .int .u64 0, .pointer none] 41) := ⟨_, rfl⟩
  have hBW : Below w.heap.size w W := by rw [hW]; exact ((Below.refl _ _).alloc (Nat.le_refl _) _).alloc (by simp) _
  have hzW : W.cell? ⟨1, 0, none⟩ = some (.pointer (some a6)) := (hBW.cell hw).trans hz
  have hcW : ∀ k (hk : k < 16), W.cell? ⟨w.heap.size, k, none⟩ = #[.int .u8 g0, .int .u8 g1, .int .u8 g2, .int .u8 g3, .int .u8 g4, .int .u8 g5, .int .u8 g6, .int .u8 g7, .int .u8 g8, .int .u8 g9, .int .u8 g10, .int .u8 g11, .int .u8 g12, .int .u8 g13, .int .u8 g14, .int .u8 g15][k]? := by
    intro k hk
    rw [hW, World.cell?_alloc_past _ _ _ (by simp), World.cell?_alloc_at _ _ _ _ rfl]
  have cg0 : W.cell? ⟨w.heap.size, 0, none⟩ = some (.int .u8 g0) := hcW 0 (by decide)
  have cg1 : W.cell? ⟨w.heap.size, 1, none⟩ = some (.int .u8 g1) := hcW 1 (by decide)
  have cg2 : W.cell? ⟨w.heap.size, 2, none⟩ = some (.int .u8 g2) := hcW 2 (by decide)
  have cg3 : W.cell? ⟨w.heap.size, 3, none⟩ = some (.int .u8 g3) := hcW 3 (by decide)
  have cg4 : W.cell? ⟨w.heap.size, 4, none⟩ = some (.int .u8 g4) := hcW 4 (by decide)
  have cg5 : W.cell? ⟨w.heap.size, 5, none⟩ = some (.int .u8 g5) := hcW 5 (by decide)
  have cg6 : W.cell? ⟨w.heap.size, 6, none⟩ = some (.int .u8 g6) := hcW 6 (by decide)
  have cg7 : W.cell? ⟨w.heap.size, 7, none⟩ = some (.int .u8 g7) := hcW 7 (by decide)
  have cg8 : W.cell? ⟨w.heap.size, 8, none⟩ = some (.int .u8 g8) := hcW 8 (by decide)
  have cg9 : W.cell? ⟨w.heap.size, 9, none⟩ = some (.int .u8 g9) := hcW 9 (by decide)
  have cg10 : W.cell? ⟨w.heap.size, 10, none⟩ = some (.int .u8 g10) := hcW 10 (by decide)
  have cg11 : W.cell? ⟨w.heap.size, 11, none⟩ = some (.int .u8 g11) := hcW 11 (by decide)
  have cg12 : W.cell? ⟨w.heap.size, 12, none⟩ = some (.int .u8 g12) := hcW 12 (by decide)
  have cg13 : W.cell? ⟨w.heap.size, 13, none⟩ = some (.int .u8 g13) := hcW 13 (by decide)
  have cg14 : W.cell? ⟨w.heap.size, 14, none⟩ = some (.int .u8 g14) := hcW 14 (by decide)
  have cg15 : W.cell? ⟨w.heap.size, 15, none⟩ = some (.int .u8 g15) := hcW 15 (by decide)
  have r0 : W.cell? ⟨w.heap.size + 1, 0, none⟩ = some (.int .u64 0) := by rw [hW, World.cell?_alloc_at _ _ _ _ (by simp)]; rfl
  have r1 : W.cell? ⟨w.heap.size + 1, 1, none⟩ = some (.int .u64 0) := by rw [hW, World.cell?_alloc_at _ _ _ _ (by simp)]; rfl
  have r2 : W.cell? ⟨w.heap.size + 1, 2, none⟩ = some (.pointer none) := by rw [hW, World.cell?_alloc_at _ _ _ _ (by simp)]; rfl
  have z : ∀ k, W.frozen? ⟨w.heap.size + 1, k, none⟩ = false := by
    intro k
    have := heap_alloc_new (w.alloc (.cells #[.int .u8 g0, .int .u8 g1, .int .u8 g2, .int .u8 g3, .int .u8 g4, .int .u8 g5, .int .u8 g6, .int .u8 g7, .int .u8 g8, .int .u8 g9, .int .u8 g10, .int .u8 g11, .int .u8 g12, .int .u8 g13, .int .u8 g14, .int .u8 g15] 26)) (.cells #[.int .u64 0, .int .u64 0, .pointer none] 41)
    rw [← hW] at this
    have e : (w.alloc (.cells #[.int .u8 g0, .int .u8 g1, .int .u8 g2, .int .u8 g3, .int .u8 g4, .int .u8 g5, .int .u8 g6, .int .u8 g7, .int .u8 g8, .int .u8 g9, .int .u8 g10, .int .u8 g11, .int .u8 g12, .int .u8 g13, .int .u8 g14, .int .u8 g15] 26)).heap.size = w.heap.size + 1 := by simp
    rw [e] at this
    simp [World.frozen?, this]
  have z0 := z 0
  have z1 := z 1
  have z2 := z 2
  have HW : Hid ((w.alloc (.cells #[.int .u8 g0, .int .u8 g1, .int .u8 g2, .int .u8 g3, .int .u8 g4, .int .u8 g5, .int .u8 g6, .int .u8 g7, .int .u8 g8, .int .u8 g9, .int .u8 g10, .int .u8 g11, .int .u8 g12, .int .u8 g13, .int .u8 g14, .int .u8 g15] 26)).alloc (.cells #[.int .u64 0, .int .u64 0, .pointer none] 41) = W) := hW.symm
  clear hW hcW z hz
  go_enter Tryd.func6, Tryd.ntmps6
  go_wp2
  rw [HW.out]
  have F1 : True := trivial
  go_region_held3 (fun w' => w'.cell? ⟨1, 0, none⟩ = some (.pointer (some a6))) (first | go_keep | (show World.cell? _ _ = _; rw [World.cell?_of_block (w := W) (by show (World.setCell (World.setCell (World.setCell _ _ _) _ _) _ _).heap[1]? = _; rw [Deep.blk_setCell_other _ _ _ _ (by show 1 ≠ w.heap.size + 1; omega), Deep.blk_setCell_other _ _ _ _ (by show 1 ≠ w.heap.size + 1; omega), Deep.blk_setCell_other _ _ _ _ (by show 1 ≠ w.heap.size + 1; omega)]; rfl)]; exact hzW)) (first | (go_at_call 9; clear F1; refine (be_any w.heap.size 0 8 16 g0 g1 g2 g3 g4 g5 g6 g7 _ (by omega) h0 h1 h2 h3 h4 h5 h6 h7 ?_ ?_ ?_ ?_ ?_ ?_ ?_ ?_).mono ?_; exact cg0; exact cg1; exact cg2; exact cg3; exact cg4; exact cg5; exact cg6; exact cg7; rintro e w' ⟨rfl, nd, rfl⟩) | (go_at_call 9; refine (be_any w.heap.size 8 8 8 g8 g9 g10 g11 g12 g13 g14 g15 _ (by omega) h8 h9 h10 h11 h12 h13 h14 h15 ?_ ?_ ?_ ?_ ?_ ?_ ?_ ?_).mono ?_; exact cg8; exact cg9; exact cg10; exact cg11; exact cg12; exact cg13; exact cg14; exact cg15; rintro e w' ⟨rfl, nd, rfl⟩))
  all_goals go_wp2
  exact bodyPost_ret (v := .agg #[.int .u64 (be8 g0 g1 g2 g3 g4 g5 g6 g7), .int .u64 (be8 g8 g9 g10 g11 g12 g13 g14 g15), .pointer (some a6)]) (by simp [results, Tryd.results6, go_sem, r0, r1, r2]) rfl
    ⟨rfl, (((bel_drewN hBW _).setCell (p := ⟨w.heap.size + 1, 0, none⟩) (by show w.heap.size ≤ w.heap.size + 1; omega) _).setCell (p := ⟨w.heap.size + 1, 1, none⟩) (by show w.heap.size ≤ w.heap.size + 1; omega) _).setCell (p := ⟨w.heap.size + 1, 2, none⟩) (by show w.heap.size ≤ w.heap.size + 1; omega) _⟩

/-- What the package-level variables hold. -/
structure Glob (a4 a6 : Addr) (w : World) : Prop where
  z4 : w.cell? ⟨0, 0, none⟩ = some (.pointer (some a4))
  z6 : w.cell? ⟨1, 0, none⟩ = some (.pointer (some a6))
  kinds : Kinds w
  ne : a4 ≠ a6
  b4 : ∃ c t, w.heap[a4.block]? = some (.cells c t (0, 0))
  b6 : ∃ c t, w.heap[a6.block]? = some (.cells c t (0, 0))
  size : 3 < w.heap.size

theorem Glob.below {a4 a6 : Addr} {B : Nat} {w w' : World} (h : Glob a4 a6 w) (hb : Below B w w') (hB : w.heap.size ≤ B) : Glob a4 a6 w' := by
  have hsz := h.size
  obtain ⟨c, t, e4⟩ := h.b4
  obtain ⟨c', t', e6⟩ := h.b6
  exact ⟨(hb.cell (p := ⟨0, 0, none⟩) (by show 0 < B; omega)).trans h.z4, (hb.cell (p := ⟨1, 0, none⟩) (by show 1 < B; omega)).trans h.z6,
    fun i hi => (hb.cell (p := ⟨2, i, none⟩) (by show 2 < B; omega)).trans (h.kinds i hi), h.ne,
    ⟨c, t, (hb.block _ (by have := lt_of_block e4; omega)).trans e4⟩, ⟨c', t', (hb.block _ (by have := lt_of_block e6; omega)).trans e6⟩, by have := hb.size; omega⟩

end Go.Proofs.Qxb6003815aDoor
