/-
  The law's walk: the boxes' cells; the route's literal.
-/
import Derived.Test.Qxb6003815aDoorTop2
import Derived.Deep.WholeRow
namespace Go.Proofs.Qxb6003815aDoor
open Go.ChangeShapes Go.WideShapes Go.ChangeAt Go.RowKit
set_option linter.unusedVariables false

set_option maxRecDepth 100000 in
set_option maxHeartbeats 3200000 in
theorem Boxes.all {H : Nat} {d0 d1 d2 d3 d4 d5 d6 d7 e0 e1 e2 e3 e4 e5 e6 e7 e8 e9 m0 m1 m2 m3 m4 m5 g0 g1 g2 g3 g4 g5 g6 g7 g8 g9 g10 g11 g12 g13 g14 g15 : Int} {V : World} (h : Boxes H d0 d1 d2 d3 d4 d5 d6 d7 e0 e1 e2 e3 e4 e5 e6 e7 e8 e9 m0 m1 m2 m3 m4 m5 g0 g1 g2 g3 g4 g5 g6 g7 g8 g9 g10 g11 g12 g13 g14 g15 V) :
    V.cell? ⟨H, 0, none⟩ = some (.int .u8 d0) ∧ V.cell? ⟨H, 1, none⟩ = some (.int .u8 d1) ∧ V.cell? ⟨H, 2, none⟩ = some (.int .u8 d2) ∧ V.cell? ⟨H, 3, none⟩ = some (.int .u8 d3) ∧ V.cell? ⟨H, 4, none⟩ = some (.int .u8 d4) ∧ V.cell? ⟨H, 5, none⟩ = some (.int .u8 d5) ∧ V.cell? ⟨H, 6, none⟩ = some (.int .u8 d6) ∧ V.cell? ⟨H, 7, none⟩ = some (.int .u8 d7) ∧ V.cell? ⟨H + 1, 0, none⟩ = some (.int .u8 e0) ∧ V.cell? ⟨H + 1, 1, none⟩ = some (.int .u8 e1) ∧ V.cell? ⟨H + 1, 2, none⟩ = some (.int .u8 e2) ∧ V.cell? ⟨H + 1, 3, none⟩ = some (.int .u8 e3) ∧ V.cell? ⟨H + 1, 4, none⟩ = some (.int .u8 e4) ∧ V.cell? ⟨H + 1, 5, none⟩ = some (.int .u8 e5) ∧ V.cell? ⟨H + 1, 6, none⟩ = some (.int .u8 e6) ∧ V.cell? ⟨H + 1, 7, none⟩ = some (.int .u8 e7) ∧ V.cell? ⟨H + 1, 8, none⟩ = some (.int .u8 e8) ∧ V.cell? ⟨H + 1, 9, none⟩ = some (.int .u8 e9) ∧ V.cell? ⟨H + 2, 0, none⟩ = some (.int .u8 m0) ∧ V.cell? ⟨H + 2, 1, none⟩ = some (.int .u8 m1) ∧ V.cell? ⟨H + 2, 2, none⟩ = some (.int .u8 m2) ∧ V.cell? ⟨H + 2, 3, none⟩ = some (.int .u8 m3) ∧ V.cell? ⟨H + 2, 4, none⟩ = some (.int .u8 m4) ∧ V.cell? ⟨H + 2, 5, none⟩ = some (.int .u8 m5) ∧ V.cell? ⟨H + 3, 0, none⟩ = some (.int .u8 g0) ∧ V.cell? ⟨H + 3, 1, none⟩ = some (.int .u8 g1) ∧ V.cell? ⟨H + 3, 2, none⟩ = some (.int .u8 g2) ∧ V.cell? ⟨H + 3, 3, none⟩ = some (.int .u8 g3) ∧ V.cell? ⟨H + 3, 4, none⟩ = some (.int .u8 g4) ∧ V.cell? ⟨H + 3, 5, none⟩ = some (.int .u8 g5) ∧ V.cell? ⟨H + 3, 6, none⟩ = some (.int .u8 g6) ∧ V.cell? ⟨H + 3, 7, none⟩ = some (.int .u8 g7) ∧ V.cell? ⟨H + 3, 8, none⟩ = some (.int .u8 g8) ∧ V.cell? ⟨H + 3, 9, none⟩ = some (.int .u8 g9) ∧ V.cell? ⟨H + 3, 10, none⟩ = some (.int .u8 g10) ∧ V.cell? ⟨H + 3, 11, none⟩ = some (.int .u8 g11) ∧ V.cell? ⟨H + 3, 12, none⟩ = some (.int .u8 g12) ∧ V.cell? ⟨H + 3, 13, none⟩ = some (.int .u8 g13) ∧ V.cell? ⟨H + 3, 14, none⟩ = some (.int .u8 g14) ∧ V.cell? ⟨H + 3, 15, none⟩ = some (.int .u8 g15) :=
  ⟨by simp [World.cell?, h.bd], by simp [World.cell?, h.bd], by simp [World.cell?, h.bd], by simp [World.cell?, h.bd], by simp [World.cell?, h.bd], by simp [World.cell?, h.bd], by simp [World.cell?, h.bd], by simp [World.cell?, h.bd], by simp [World.cell?, h.be], by simp [World.cell?, h.be], by simp [World.cell?, h.be], by simp [World.cell?, h.be], by simp [World.cell?, h.be], by simp [World.cell?, h.be], by simp [World.cell?, h.be], by simp [World.cell?, h.be], by simp [World.cell?, h.be], by simp [World.cell?, h.be], by simp [World.cell?, h.bm], by simp [World.cell?, h.bm], by simp [World.cell?, h.bm], by simp [World.cell?, h.bm], by simp [World.cell?, h.bm], by simp [World.cell?, h.bm], by simp [World.cell?, h.bg], by simp [World.cell?, h.bg], by simp [World.cell?, h.bg], by simp [World.cell?, h.bg], by simp [World.cell?, h.bg], by simp [World.cell?, h.bg], by simp [World.cell?, h.bg], by simp [World.cell?, h.bg], by simp [World.cell?, h.bg], by simp [World.cell?, h.bg], by simp [World.cell?, h.bg], by simp [World.cell?, h.bg], by simp [World.cell?, h.bg], by simp [World.cell?, h.bg], by simp [World.cell?, h.bg], by simp [World.cell?, h.bg]⟩

theorem hid_of {p : Prop} (h : p) : Hid p := h

theorem Tryd.info45 : (Tryd.prog.info? 45).map (·.size) = some 39 := by kernel_rfl

/-- The route's literal. -/
def routeL (typ d0 d1 d2 d3 d4 d5 d6 d7 e0 e1 e2 e3 e4 e5 e6 e7 e8 e9 tag m0 m1 m2 m3 m4 m5 label label2 : Int) (hl : Bool) : List Value :=
  (.int .u8 typ :: .int .u8 d0 :: .int .u8 d1 :: .int .u8 d2 :: .int .u8 d3 :: .int .u8 d4 :: .int .u8 d5 :: .int .u8 d6 :: .int .u8 d7 :: .int .u8 e0 :: .int .u8 e1 :: .int .u8 e2 :: .int .u8 e3 :: .int .u8 e4 :: .int .u8 e5 :: .int .u8 e6 :: .int .u8 e7 :: .int .u8 e8 :: .int .u8 e9 :: .int .u32 tag :: .int .u8 m0 :: .int .u8 m1 :: .int .u8 m2 :: .int .u8 m3 :: .int .u8 m4 :: .int .u8 m5 :: .int .u64 0 :: .int .u64 0 :: .pointer none :: .int .u64 0 :: .int .u64 0 :: .pointer none :: .int .u8 0 :: .int .u64 0 :: .int .u64 0 :: .pointer none :: .int .u32 label :: .int .u32 label2 :: .bool hl :: [])

/-- The route's literal, laid into its new variable. -/
theorem store_route (V : World) (K : Nat) (h : V.heap.size = K) (R : Array Value) (hs : R.size = 39) (ho : R.all (·.oneCell') = true) :
    (storeCells ⟨K, 0, none⟩ R.toList 0).run Tryd.prog (V.alloc (.cells (List.toArray (.int .u8 0 :: .int .u8 0 :: .int .u8 0 :: .int .u8 0 :: .int .u8 0 :: .int .u8 0 :: .int .u8 0 :: .int .u8 0 :: .int .u8 0 :: .int .u8 0 :: .int .u8 0 :: .int .u8 0 :: .int .u8 0 :: .int .u8 0 :: .int .u8 0 :: .int .u8 0 :: .int .u8 0 :: .int .u8 0 :: .int .u8 0 :: .int .u32 0 :: .int .u8 0 :: .int .u8 0 :: .int .u8 0 :: .int .u8 0 :: .int .u8 0 :: .int .u8 0 :: .int .u64 0 :: .int .u64 0 :: .pointer none :: .int .u64 0 :: .int .u64 0 :: .pointer none :: .int .u8 0 :: .int .u64 0 :: .int .u64 0 :: .pointer none :: .int .u32 0 :: .int .u32 0 :: .bool false :: [])) 45)) = .ok () (V.alloc (.cells R 45)) := by
  subst h
  exact run_storeCells_new V 45 (List.toArray (.int .u8 0 :: .int .u8 0 :: .int .u8 0 :: .int .u8 0 :: .int .u8 0 :: .int .u8 0 :: .int .u8 0 :: .int .u8 0 :: .int .u8 0 :: .int .u8 0 :: .int .u8 0 :: .int .u8 0 :: .int .u8 0 :: .int .u8 0 :: .int .u8 0 :: .int .u8 0 :: .int .u8 0 :: .int .u8 0 :: .int .u8 0 :: .int .u32 0 :: .int .u8 0 :: .int .u8 0 :: .int .u8 0 :: .int .u8 0 :: .int .u8 0 :: .int .u8 0 :: .int .u64 0 :: .int .u64 0 :: .pointer none :: .int .u64 0 :: .int .u64 0 :: .pointer none :: .int .u8 0 :: .int .u64 0 :: .int .u64 0 :: .pointer none :: .int .u32 0 :: .int .u32 0 :: .bool false :: [])) R (by rw [hs]; exact Tryd.info45) (by rw [hs]; rfl) ho

theorem routeL_one (typ d0 d1 d2 d3 d4 d5 d6 d7 e0 e1 e2 e3 e4 e5 e6 e7 e8 e9 tag m0 m1 m2 m3 m4 m5 label label2 : Int) (hl : Bool) : (List.toArray (routeL typ d0 d1 d2 d3 d4 d5 d6 d7 e0 e1 e2 e3 e4 e5 e6 e7 e8 e9 tag m0 m1 m2 m3 m4 m5 label label2 hl)).all (·.oneCell') = true := by
  simp [routeL, Value.oneCell']

theorem cell_new_at (V : World) (K i : Nat) (h : V.heap.size = K) (L : List Value) (t : TypeId) : (V.alloc (.cells (List.toArray L) t)).cell? ⟨K, i, none⟩ = L[i]? := by
  subst h
  rw [cell_of_row _ _ i (List.toArray L) t (0, 0) (heap_alloc_last V _)]
  simp

theorem Rt.new (V : World) (K : Nat) (h : V.heap.size = K) (typ d0 d1 d2 d3 d4 d5 d6 d7 e0 e1 e2 e3 e4 e5 e6 e7 e8 e9 tag m0 m1 m2 m3 m4 m5 label label2 : Int) (hl : Bool) :
    Rt K typ e0 e1 e2 e3 e4 e5 e6 e7 e8 e9 tag 0 0 none label (V.alloc (.cells (List.toArray (routeL typ d0 d1 d2 d3 d4 d5 d6 d7 e0 e1 e2 e3 e4 e5 e6 e7 e8 e9 tag m0 m1 m2 m3 m4 m5 label label2 hl)) 45)) :=
  ⟨(cell_new_at V K 0 h _ 45).trans rfl, (cell_new_at V K 9 h _ 45).trans rfl, (cell_new_at V K 10 h _ 45).trans rfl, (cell_new_at V K 11 h _ 45).trans rfl, (cell_new_at V K 12 h _ 45).trans rfl, (cell_new_at V K 13 h _ 45).trans rfl, (cell_new_at V K 14 h _ 45).trans rfl, (cell_new_at V K 15 h _ 45).trans rfl, (cell_new_at V K 16 h _ 45).trans rfl, (cell_new_at V K 17 h _ 45).trans rfl, (cell_new_at V K 18 h _ 45).trans rfl, (cell_new_at V K 19 h _ 45).trans rfl, (cell_new_at V K 33 h _ 45).trans rfl, (cell_new_at V K 34 h _ 45).trans rfl, (cell_new_at V K 35 h _ 45).trans rfl, (cell_new_at V K 36 h _ 45).trans rfl⟩

theorem attr_new (W : World) (S : Nat) (hS : W.heap.size = S) (ad : Option Addr) (n cap : Nat) (zs : List Int) (hC : Com ad n zs W) :
    Attr S ad n cap zs (W.alloc (.cells #[.int .u64 0, .int .u64 0, .pointer none, .slice ad n cap, .pointer none, .int .u8 0, .slice none 0 0, .int .u32 0, .int .u32 0] 55)) := by
  refine ⟨cell_new_at W S 3 hS _ 55, fun hn => ?_⟩
  obtain ⟨b, off, e, r⟩ := hC hn
  exact ⟨b, off, e, r.below ((Below.refl W.heap.size W).alloc (Nat.le_refl _) _) (Nat.le_refl _)⟩

/-- The call of 'ZZRouteFault', and what is known behind it: the model's call gives the same. -/
theorem call_seven (H Br S : Nat) (typ d0 d1 d2 d3 d4 d5 d6 d7 e0 e1 e2 e3 e4 e5 e6 e7 e8 e9 tag m0 m1 m2 m3 m4 m5 g0 g1 g2 g3 g4 g5 g6 g7 g8 g9 g10 g11 g12 g13 g14 g15 gl label hi lo : Int) (gp ad ad' : Option Addr) (n cap cap' : Nat) (zs : List Int) (u : Bool) (a4 a6 : Addr) (w W : World)
    (hS : W.heap.size = S) (hSH : H + 4 ≤ S) (hX : Boxes H d0 d1 d2 d3 d4 d5 d6 d7 e0 e1 e2 e3 e4 e5 e6 e7 e8 e9 m0 m1 m2 m3 m4 m5 g0 g1 g2 g3 g4 g5 g6 g7 g8 g9 g10 g11 g12 g13 g14 g15 W) (hR : Rt Br typ e0 e1 e2 e3 e4 e5 e6 e7 e8 e9 tag hi lo gp label W) (hG : Glob a4 a6 W) (hB : Below H w W) (hC : Com ad n zs W) (hC' : Com ad' n zs W)
    (hn : n ≤ 65536) (hbd : ∀ i j, 0 ≤ cB zs i j ∧ cB zs i j ≤ 255)
    (hU : typ = 5 → ∀ V, Glob a4 a6 V → Calls Tryd.prog 12 #[.agg #[.int .u64 hi, .int .u64 lo, .pointer gp]] V fun e V' => e = .returned (.bool u) ∧ Below V.heap.size V V')
    (hgl : typ = 5 → (gl = 4 ∧ u = zeroB ([g0, g1, g2, g3, g4, g5, g6, g7, g8, g9, g10, g11, g12, g13, g14, g15].take 4)) ∨ (gl = 16 ∧ u = zeroB ([g0, g1, g2, g3, g4, g5, g6, g7, g8, g9, g10, g11, g12, g13, g14, g15].take 16))) :
    Calls Tryd.prog 7 #[.pointer (some ⟨Br, 0, none⟩), .pointer (some ⟨S, 0, none⟩)] (W.alloc (.cells #[.int .u64 0, .int .u64 0, .pointer none, .slice ad' n cap', .pointer none, .int .u8 0, .slice none 0 0, .int .u32 0, .int .u32 0] 55)) fun e w' =>
      ∃ got : Int, e = .returned (.int .u8 got) ∧ (got = 15 ↔ 5 < e0) ∧ Boxes H d0 d1 d2 d3 d4 d5 d6 d7 e0 e1 e2 e3 e4 e5 e6 e7 e8 e9 m0 m1 m2 m3 m4 m5 g0 g1 g2 g3 g4 g5 g6 g7 g8 g9 g10 g11 g12 g13 g14 g15 w' ∧
        Calls Tryd.prog 8 #[.int .u8 typ, .agg #[.int .u8 e0, .int .u8 e1, .int .u8 e2, .int .u8 e3, .int .u8 e4, .int .u8 e5, .int .u8 e6, .int .u8 e7, .int .u8 e8, .int .u8 e9], .int .u32 tag, .int .u32 label, .int .u8 gl, .agg #[.int .u8 g0, .int .u8 g1, .int .u8 g2, .int .u8 g3, .int .u8 g4, .int .u8 g5, .int .u8 g6, .int .u8 g7, .int .u8 g8, .int .u8 g9, .int .u8 g10, .int .u8 g11, .int .u8 g12, .int .u8 g13, .int .u8 g14, .int .u8 g15], .slice ad n cap] w' fun e w'' => e = .returned (.int .u8 got) ∧ Below H w w'' ∧ w''.cell? ⟨H + 1, 0, none⟩ = some (.int .u8 e0) := by
  have hA := attr_new W S hS ad' n cap' zs hC'
  have hb1 : Below S W (W.alloc (.cells #[.int .u64 0, .int .u64 0, .pointer none, .slice ad' n cap', .pointer none, .int .u8 0, .slice none 0 0, .int .u32 0, .int .u32 0] 55)) := (Below.refl _ _).alloc (by omega) _
  obtain ⟨W1, hW1⟩ : ∃ W1, W.alloc (.cells #[.int .u64 0, .int .u64 0, .pointer none, .slice ad' n cap', .pointer none, .int .u8 0, .slice none 0 0, .int .u32 0, .int .u32 0] 55) = W1 := ⟨_, rfl⟩
  rw [hW1] at hA hb1
  rw [hW1]
  have hs1 : S ≤ W1.heap.size := hS ▸ hb1.size
  refine (rf_all Br S n cap' ad' zs a4 a6 typ e0 e1 e2 e3 e4 e5 e6 e7 e8 e9 tag hi lo gp label u W1 (hR.below hb1 (by omega)) hn hA (hG.below hb1 (by omega)) hbd hU).mono ?_
  rintro e w2 ⟨rfl, hb2⟩
  have hbS : Below S W w2 := hb1.trans (hb2.mono hs1)
  have hX2 := hX.below hbS hSH
  refine ⟨_, rfl, faultOf_15 _ _ _ _ _ _ _ _, hX2, ?_⟩
  refine (mo_all typ e0 e1 e2 e3 e4 e5 e6 e7 e8 e9 tag label gl g0 g1 g2 g3 g4 g5 g6 g7 g8 g9 g10 g11 g12 g13 g14 g15 ad n cap zs u w2 hn (hC.below hbS (by omega)) hbd hgl).mono ?_
  rintro e w3 ⟨rfl, hb3⟩
  have hsz : S ≤ w2.heap.size := hS ▸ hbS.size
  have hb4 : Below S W w3 := hbS.trans (hb3.mono hsz)
  exact ⟨rfl, hB.trans (hb4.mono (by omega)), (hX.below hb4 hSH).all.2.2.2.2.2.2.2.2.1⟩

theorem Rt.gw (w1 : World) (Br : Nat) (typ d0 d1 d2 d3 d4 d5 d6 d7 e0 e1 e2 e3 e4 e5 e6 e7 e8 e9 tag m0 m1 m2 m3 m4 m5 label label2 : Int) (hl : Bool) (h : w1.heap[Br]? = some (.cells (List.toArray (routeL typ d0 d1 d2 d3 d4 d5 d6 d7 e0 e1 e2 e3 e4 e5 e6 e7 e8 e9 tag m0 m1 m2 m3 m4 m5 label label2 hl)) 45 (0, 0))) (hi lo : Int) (gp : Option Addr) :
    Rt Br typ e0 e1 e2 e3 e4 e5 e6 e7 e8 e9 tag hi lo gp label (((w1.setCell ⟨Br, 33, none⟩ (.int .u64 hi)).setCell ⟨Br, 34, none⟩ (.int .u64 lo)).setCell ⟨Br, 35, none⟩ (.pointer gp)) := by
  have s3 := blk_set (blk_set (blk_set h 33 (.int .u64 hi)) 34 (.int .u64 lo)) 35 (.pointer gp)
  exact ⟨(cell_of_row _ _ 0 _ 45 (0, 0) s3).trans (by simp [routeL]), (cell_of_row _ _ 9 _ 45 (0, 0) s3).trans (by simp [routeL]), (cell_of_row _ _ 10 _ 45 (0, 0) s3).trans (by simp [routeL]), (cell_of_row _ _ 11 _ 45 (0, 0) s3).trans (by simp [routeL]), (cell_of_row _ _ 12 _ 45 (0, 0) s3).trans (by simp [routeL]), (cell_of_row _ _ 13 _ 45 (0, 0) s3).trans (by simp [routeL]), (cell_of_row _ _ 14 _ 45 (0, 0) s3).trans (by simp [routeL]), (cell_of_row _ _ 15 _ 45 (0, 0) s3).trans (by simp [routeL]), (cell_of_row _ _ 16 _ 45 (0, 0) s3).trans (by simp [routeL]), (cell_of_row _ _ 17 _ 45 (0, 0) s3).trans (by simp [routeL]), (cell_of_row _ _ 18 _ 45 (0, 0) s3).trans (by simp [routeL]), (cell_of_row _ _ 19 _ 45 (0, 0) s3).trans (by simp [routeL]), (cell_of_row _ _ 33 _ 45 (0, 0) s3).trans (by simp [routeL]), (cell_of_row _ _ 34 _ 45 (0, 0) s3).trans (by simp [routeL]), (cell_of_row _ _ 35 _ 45 (0, 0) s3).trans (by simp [routeL]), (cell_of_row _ _ 36 _ 45 (0, 0) s3).trans (by simp [routeL])⟩

end Go.Proofs.Qxb6003815aDoor
