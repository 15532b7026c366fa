/-
  The communities in memory; '(*Attributes).first'.
-/
import Derived.Test.Qxb6003815aDoorAddr
namespace Go.Proofs.Qxb6003815aDoor
open Go.ChangeShapes Go.WideShapes Go.ChangeAt Go.RowKit
set_option linter.unusedVariables false

/-- Octet j of community i. -/
def cB (zs : List Int) (i j : Nat) : Int := zs.getD (i * 8 + j) 0

/-- A row of n communities from a place on. -/
structure Rows8 (b off n : Nat) (zs : List Int) (w : World) : Prop where
  cell : ∀ i j, i < n → j < 8 → w.cell? ⟨b, off + i * 8 + j, none⟩ = some (.int .u8 (cB zs i j))
  bd : ∀ i j, 0 ≤ cB zs i j ∧ cB zs i j ≤ 255

theorem Rows8.below {b off n B : Nat} {zs : List Int} {w w' : World} (h : Rows8 b off n zs w) (hb : Below B w w') (hB : w.heap.size ≤ B) : Rows8 b off n zs w' :=
  ⟨fun i j hi hj => (hb.cell (by have := World.block_lt_of_cell? w _ (h.cell i j hi hj); omega)).trans (h.cell i j hi hj), h.bd⟩

/-- The attributes in block Ba lead to n communities (a slice of length n at ad). -/
structure Attr (Ba : Nat) (ad : Option Addr) (n cap : Nat) (zs : List Int) (w : World) : Prop where
  fld : w.cell? ⟨Ba, 3, none⟩ = some (.slice ad n cap)
  row : 0 < n → ∃ b off, ad = some ⟨b, off, none⟩ ∧ Rows8 b off n zs w

theorem Attr.below {Ba n cap B : Nat} {ad : Option Addr} {zs : List Int} {w w' : World} (h : Attr Ba ad n cap zs w) (hb : Below B w w') (hB : w.heap.size ≤ B) : Attr Ba ad n cap zs w' :=
  ⟨(hb.cell (p := ⟨Ba, 3, none⟩) (by have := World.block_lt_of_cell? w _ h.fld; show Ba < B; exact Nat.lt_of_lt_of_le this hB)).trans h.fld,
   fun hn => by obtain ⟨b, off, e, r⟩ := h.row hn; exact ⟨b, off, e, r.below hb hB⟩⟩

/-- Community i as a value. -/
def comV (zs : List Int) (i : Nat) : Value := .agg #[.int .u8 (cB zs i 0), .int .u8 (cB zs i 1), .int .u8 (cB zs i 2), .int .u8 (cB zs i 3), .int .u8 (cB zs i 4), .int .u8 (cB zs i 5), .int .u8 (cB zs i 6), .int .u8 (cB zs i 7)]

/-- A block of eight cells: what they hold; that they may be written. -/
theorem cells8 {w : World} {b : Nat} {x0 x1 x2 x3 x4 x5 x6 x7 : Value} {t : TypeId} (h : w.heap[b]? = some (.cells #[x0, x1, x2, x3, x4, x5, x6, x7] t (0, 0))) :
    w.cell? ⟨b, 0, none⟩ = some x0 ∧ w.cell? ⟨b, 1, none⟩ = some x1 ∧ w.cell? ⟨b, 2, none⟩ = some x2 ∧ w.cell? ⟨b, 3, none⟩ = some x3 ∧ w.cell? ⟨b, 4, none⟩ = some x4 ∧ w.cell? ⟨b, 5, none⟩ = some x5 ∧ w.cell? ⟨b, 6, none⟩ = some x6 ∧ w.cell? ⟨b, 7, none⟩ = some x7 := by
  simp [World.cell?, h]
theorem free_of_block {w : World} {b : Nat} {c : Array Value} {t : TypeId} (h : w.heap[b]? = some (.cells c t (0, 0))) (j : Nat) : w.frozen? ⟨b, j, none⟩ = false := by simp [World.frozen?, h]

/-- No community of kind k among the first i. -/
def NoneOf (zs : List Int) (k : Int) (i : Nat) : Prop := ∀ j, j < i → kindOf (cB zs j 0) (cB zs j 1) ≠ k

set_option maxRecDepth 100000 in
set_option maxHeartbeats 1600000 in
theorem first_any (Ba n cap : Nat) (ad : Option Addr) (zs : List Int) (k : Int) (a4 a6 : Addr) (w : World) (hn : n ≤ 65536) (hA : Attr Ba ad n cap zs w) (hG : Glob a4 a6 w) :
    Calls Tryd.prog 19 #[.pointer (some ⟨Ba, 0, none⟩), .int .u8 k] w fun e w' => Below w.heap.size w w' ∧
      ((∃ i, i < n ∧ NoneOf zs k i ∧ kindOf (cB zs i 0) (cB zs i 1) = k ∧ e = .returned (.tuple #[comV zs i, .bool true])) ∨
       (NoneOf zs k n ∧ e = .returned (.tuple #[.agg #[.int .u8 0, .int .u8 0, .int .u8 0, .int .u8 0, .int .u8 0, .int .u8 0, .int .u8 0, .int .u8 0], .bool false]))) := by
  have hB0 : Below w.heap.size w (w.alloc (.cells #[.int .u8 0, .int .u8 0, .int .u8 0, .int .u8 0, .int .u8 0, .int .u8 0, .int .u8 0, .int .u8 0] 49)) := (Below.refl _ w).alloc (Nat.le_refl _) _
  have hf := (hA.below hB0 (Nat.le_refl _)).fld
  go_enter Tryd.func19, Tryd.ntmps19
  go_wp2
  have hsz := hG.size
  go_loopw [13] (fun c wr => ∃ i : Nat, i ≤ n ∧ c = .int .i64 i ∧ NoneOf zs k i ∧ wr.heap[w.heap.size]? = some (.cells #[.int .u8 0, .int .u8 0, .int .u8 0, .int .u8 0, .int .u8 0, .int .u8 0, .int .u8 0, .int .u8 0] 49 (0, 0)) ∧ Below w.heap.size w wr)
    (fun c _ => n - (intOf c).toNat)
  case atStart => exact ⟨0, Nat.zero_le _, rfl, fun j hj => absurd hj (Nat.not_lt_zero _), heap_alloc_new _ _, hB0⟩
  case round =>
    obtain ⟨i, hi, rfl, hno, hR, hnx⟩ := hrel
    have HNO : Hid (NoneOf zs k i) := hno
    clear hno hf hB0
    by_cases hin : i < n
    · obtain ⟨b, off, rfl, hrow⟩ := hA.row (by omega)
      have hrw := hrow.below hnx (Nat.le_refl _)
      have q0 := hrw.cell i 0 hin (by omega)
      rw [Nat.add_zero] at q0
      have q1 := hrw.cell i 1 hin (by omega)
      have q2 := hrw.cell i 2 hin (by omega)
      have q3 := hrw.cell i 3 hin (by omega)
      have q4 := hrw.cell i 4 hin (by omega)
      have q5 := hrw.cell i 5 hin (by omega)
      have q6 := hrw.cell i 6 hin (by omega)
      have q7 := hrw.cell i 7 hin (by omega)
      have hb1 := hrw.bd i 1
      have HK : Hid (kindOf (cB zs i 0) (cB zs i 1) = kindOf (cB zs i 0) (cB zs i 1)) := rfl
      have HV : Hid (comV zs i = comV zs i) := rfl
      obtain ⟨x0, hx0⟩ : ∃ x, x = cB zs i 0 := ⟨_, rfl⟩
      obtain ⟨x1, hx1⟩ : ∃ x, x = cB zs i 1 := ⟨_, rfl⟩
      obtain ⟨x2, hx2⟩ : ∃ x, x = cB zs i 2 := ⟨_, rfl⟩
      obtain ⟨x3, hx3⟩ : ∃ x, x = cB zs i 3 := ⟨_, rfl⟩
      obtain ⟨x4, hx4⟩ : ∃ x, x = cB zs i 4 := ⟨_, rfl⟩
      obtain ⟨x5, hx5⟩ : ∃ x, x = cB zs i 5 := ⟨_, rfl⟩
      obtain ⟨x6, hx6⟩ : ∃ x, x = cB zs i 6 := ⟨_, rfl⟩
      obtain ⟨x7, hx7⟩ : ∃ x, x = cB zs i 7 := ⟨_, rfl⟩
      rw [← hx0] at q0
      rw [← hx1] at q1
      rw [← hx2] at q2
      rw [← hx3] at q3
      rw [← hx4] at q4
      rw [← hx5] at q5
      rw [← hx6] at q6
      rw [← hx7] at q7
      rw [← hx1] at hb1
      have HX : Hid (kindOf x0 x1 = kindOf (cB zs i 0) (cB zs i 1)) := by show _ = _; rw [hx0, hx1]
      have HC : Hid (.agg #[.int .u8 x0, .int .u8 x1, .int .u8 x2, .int .u8 x3, .int .u8 x4, .int .u8 x5, .int .u8 x6, .int .u8 x7] = comV zs i) := by show _ = _; rw [hx0, hx1, hx2, hx3, hx4, hx5, hx6, hx7]; rfl
      have hG2 := hG.below (hnx.alloc (by have := hnx.size; omega) (.cells #[.int .u8 x0, .int .u8 x1, .int .u8 x2, .int .u8 x3, .int .u8 x4, .int .u8 x5, .int .u8 x6, .int .u8 x7] 49)) (Nat.le_refl _)
      have hwr : w.heap.size < wr.heap.size := lt_of_block hR
      clear HK HV hx0 hx1 hx2 hx3 hx4 hx5 hx6 hx7 hrow hrw
      obtain ⟨hb10, hb11⟩ := hb1
      go_wp2_with fail
      refine (kind_any x0 x1 x2 x3 x4 x5 x6 x7 _ hG2.kinds (by simp; omega) hb10 hb11).mono ?_
      rintro e w1 ⟨rfl, hb⟩
      have hb' : Below (wr.heap.size + 1) (wr.alloc (.cells #[.int .u8 x0, .int .u8 x1, .int .u8 x2, .int .u8 x3, .int .u8 x4, .int .u8 x5, .int .u8 x6, .int .u8 x7] 49)) w1 := by simpa using hb
      have hbox : w1.heap[wr.heap.size]? = some (.cells #[.int .u8 x0, .int .u8 x1, .int .u8 x2, .int .u8 x3, .int .u8 x4, .int .u8 x5, .int .u8 x6, .int .u8 x7] 49 (0, 0)) := (hb'.block _ (by omega)).trans (heap_alloc_new _ _)
      have hR1 : w1.heap[w.heap.size]? = some (.cells #[.int .u8 0, .int .u8 0, .int .u8 0, .int .u8 0, .int .u8 0, .int .u8 0, .int .u8 0, .int .u8 0] 49 (0, 0)) := (hb'.block _ (by omega)).trans ((Below.heap_alloc _ _ _ hwr).trans hR)
      have hnx1 : Below w.heap.size w w1 := (hnx.alloc (by omega) _).trans (hb'.mono (by omega))
      obtain ⟨p0, p1, p2, p3, p4, p5, p6, p7⟩ := cells8 hbox
      obtain ⟨r0, r1, r2, r3, r4, r5, r6, r7⟩ := cells8 hR1
      have z0 := free_of_block hR1 0
      have z1 := free_of_block hR1 1
      have z2 := free_of_block hR1 2
      have z3 := free_of_block hR1 3
      have z4 := free_of_block hR1 4
      have z5 := free_of_block hR1 5
      have z6 := free_of_block hR1 6
      have z7 := free_of_block hR1 7
      obtain ⟨kk, hkk⟩ : ∃ kk, kk = kindOf x0 x1 := ⟨_, rfl⟩
      rw [← hkk]
      have HKK : Hid (kk = kindOf (cB zs i 0) (cB zs i 1)) := by show _ = _; rw [hkk]; exact HX.out
      clear hkk HX hb hb' hbox hR hnx hG2 q0 q1 q2 q3 q4 q5 q6 q7
      by_cases hke : kk = k
      · subst hke
        go_wp2
        refine bodyPost_ret (v := .tuple #[.agg #[.int .u8 x0, .int .u8 x1, .int .u8 x2, .int .u8 x3, .int .u8 x4, .int .u8 x5, .int .u8 x6, .int .u8 x7], .bool true]) (by simp [results, Tryd.results19, go_sem, r0, r1, r2, r3, r4, r5, r6, r7]) rfl ⟨((((((((hnx1.setCell (p := ⟨w.heap.size, 0, none⟩) (Nat.le_refl _) _).setCell (p := ⟨w.heap.size, 1, none⟩) (Nat.le_refl _) _).setCell (p := ⟨w.heap.size, 2, none⟩) (Nat.le_refl _) _).setCell (p := ⟨w.heap.size, 3, none⟩) (Nat.le_refl _) _).setCell (p := ⟨w.heap.size, 4, none⟩) (Nat.le_refl _) _).setCell (p := ⟨w.heap.size, 5, none⟩) (Nat.le_refl _) _).setCell (p := ⟨w.heap.size, 6, none⟩) (Nat.le_refl _) _).setCell (p := ⟨w.heap.size, 7, none⟩) (Nat.le_refl _) _), Or.inl ⟨i, hin, HNO.out, HKK.out.symm, ?_⟩⟩
        rw [HC.out]
      · have hke' : (kk == k) = false := by simp [hke]
        have HNE : Hid (kk ≠ k) := hke
        clear hke
        go_wp2
        go_roundw
        case rel =>
          refine ⟨i + 1, by omega, by go_num, fun j hj => ?_, hR1, hnx1⟩
          by_cases e : j = i
          · subst e; rw [← HKK.out]; exact HNE.out
          · exact HNO.out j (by omega)
        case measure => simp [intOf]; omega
    · have hie : i = n := by omega
      subst hie
      obtain ⟨r0, r1, r2, r3, r4, r5, r6, r7⟩ := cells8 hR
      have z0 := free_of_block hR 0
      have z1 := free_of_block hR 1
      have z2 := free_of_block hR 2
      have z3 := free_of_block hR 3
      have z4 := free_of_block hR 4
      have z5 := free_of_block hR 5
      have z6 := free_of_block hR 6
      have z7 := free_of_block hR 7
      clear hG hA
      go_wp2
      exact bodyPost_ret (v := .tuple #[.agg #[.int .u8 0, .int .u8 0, .int .u8 0, .int .u8 0, .int .u8 0, .int .u8 0, .int .u8 0, .int .u8 0], .bool false]) (by simp [results, Tryd.results19, go_sem, r0, r1, r2, r3, r4, r5, r6, r7]) rfl ⟨((((((((hnx.setCell (p := ⟨w.heap.size, 0, none⟩) (Nat.le_refl _) _).setCell (p := ⟨w.heap.size, 1, none⟩) (Nat.le_refl _) _).setCell (p := ⟨w.heap.size, 2, none⟩) (Nat.le_refl _) _).setCell (p := ⟨w.heap.size, 3, none⟩) (Nat.le_refl _) _).setCell (p := ⟨w.heap.size, 4, none⟩) (Nat.le_refl _) _).setCell (p := ⟨w.heap.size, 5, none⟩) (Nat.le_refl _) _).setCell (p := ⟨w.heap.size, 6, none⟩) (Nat.le_refl _) _).setCell (p := ⟨w.heap.size, 7, none⟩) (Nat.le_refl _) _), Or.inr ⟨HNO.out, rfl⟩⟩

end Go.Proofs.Qxb6003815aDoor
