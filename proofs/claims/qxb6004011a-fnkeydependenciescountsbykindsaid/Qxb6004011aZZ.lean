/-
  'ZZKeyDependencies': three rows, the edges' columns.
-/
import Derived.Test.Qxb6004011aKey
import Derived.OwnWalk
namespace Go.Proofs.Qxb6004011a
open Go.ChangeShapes Go.WideShapes Go.ChangeAt Go.RowKit
set_option linter.unusedVariables false

theorem Try.info32 : (Try.prog.info? 32).map (fun i => (i.zero, i.size, i.bytes)) = some (some (.agg #[.int .i32 0, .bool false, .bool false]), 3, 8) := by kernel_rfl
theorem Try.info40 : (Try.prog.info? 40).map (fun i => (i.zero, i.size, i.bytes)) = some (some (.agg #[.int .i32 0, .int .i32 0]), 2, 8) := by kernel_rfl
theorem Try.info5 : (Try.prog.info? 5).map (fun i => (i.zero, i.size, i.bytes)) = some (some (.int .u8 0), 1, 1) := by kernel_rfl

/-- 'make([]T, n)', T a struct. -/
theorem make_agg (t e : TypeId) (cs : Array Value) (size bytes : Nat) (ht : Try.prog.underlying t = some (.slice e)) (hinfo : (Try.prog.info? e).map (fun i => (i.zero, i.size, i.bytes)) = some (some (.agg cs), size, bytes))
    (hc : (Value.agg cs).cells = cs) (n : Nat) (hbytes : bytes * n ≤ 281474976710656) (h63 : n ≤ 1048576) (w : World) :
    (Instr.makeSlice t (.int .i64 (n : Int)) (.int .i64 (n : Int))).run Try.prog w = .ok (.slice (some ⟨w.heap.size, 0, none⟩) n n) (w.alloc (.cells (madeCells cs (n * size)) e)) := by
  obtain ⟨i, hi, hzz⟩ := Option.map_eq_some_iff.1 hinfo
  simp only [Prod.mk.injEq] at hzz
  obtain ⟨hz, hs, hb⟩ := hzz
  have hb' : (i.bytes : Int) * (n : Int) ≤ 281474976710656 := by
    have h : ((i.bytes * n : Nat) : Int) ≤ 281474976710656 := by rw [hb]; omega
    rwa [Int.natCast_mul] at h
  have hr := run_make (P := Try.prog) w t e i (.agg cs) ht hi hz .i64 .i64 n n (by omega) (Int.le_refl _) hb' (by omega)
  simp only [Int.toNat_natCast, hs, hc] at hr
  exact hr

theorem rowIs_made_any (w : World) (cs : Array Value) (n : Nat) (t : TypeId) : ∃ g, (w.alloc (.cells (madeCells cs n) t)).rowIs w.heap.size t n g := by
  refine ⟨fun i => (madeCells cs n).getD i undef, _, Deep.blk_alloc_new _ _, size_madeCells _ _, fun i hi => ?_⟩
  have : i < (madeCells cs n).size := by rw [size_madeCells]; exact hi
  simp [Array.getD, this]

/-- The row of the order, k elements laid. -/
def OrdRow (b n k : Nat) (zs : List Int) (w : World) : Prop := ∃ g, w.rowIs b 32 (n * 3) g ∧ ∀ i, i < k → g (i * 3) = .int .i32 (zs.getD i 0)

theorem OrdRow.step {b n k : Nat} {zs : List Int} {w : World} {g : Nat → Value} (hg : w.rowIs b 32 (n * 3) g) (hgz : ∀ i, i < k → g (i * 3) = .int .i32 (zs.getD i 0)) (z : Int) (hz : z = zs.getD k 0) (u v : Value) :
    OrdRow b n (k + 1) zs (((w.setCell ⟨b, k * 3, none⟩ (.int .i32 z)).setCell ⟨b, k * 3 + 1, none⟩ u).setCell ⟨b, k * 3 + 2, none⟩ v) := by
  refine ⟨_, ((hg.set _ _).set _ _).set _ _, fun i hi => ?_⟩
  rw [if_neg (by omega), if_neg (by omega)]
  by_cases e : i = k
  · subst e; rw [if_pos rfl, hz]
  · rw [if_neg (by omega)]; exact hgz i (by omega)

theorem OrdRow.setOther {b n k : Nat} {zs : List Int} {w : World} (h : OrdRow b n k zs w) {a : Addr} (ha : b ≠ a.block) (v : Value) : OrdRow b n k zs (w.setCell a v) := by
  obtain ⟨g, hg, hz⟩ := h
  exact ⟨g, hg.setOther ha v, hz⟩
theorem OrdRow.alloc {b n k : Nat} {zs : List Int} {w : World} (h : OrdRow b n k zs w) (o : Obj) : OrdRow b n k zs (w.alloc o) := by
  obtain ⟨g, hg, hz⟩ := h
  exact ⟨g, hg.alloc o, hz⟩
theorem OrdRow.lt {b n k : Nat} {zs : List Int} {w : World} (h : OrdRow b n k zs w) : b < w.heap.size := by
  obtain ⟨g, hg, hz⟩ := h
  exact hg.lt

/-- The row of the reads, k elements laid. -/
def RdRow (b n k : Nat) (ts ns : List Int) (w : World) : Prop := ∃ g, w.rowIs b 40 (n * 2) g ∧ ∀ i, i < k → g (i * 2) = .int .i32 (ts.getD i 0) ∧ g (i * 2 + 1) = .int .i32 (ns.getD i 0)

theorem RdRow.step {b n k : Nat} {ts ns : List Int} {w : World} {g : Nat → Value} (hg : w.rowIs b 40 (n * 2) g) (hgz : ∀ i, i < k → g (i * 2) = .int .i32 (ts.getD i 0) ∧ g (i * 2 + 1) = .int .i32 (ns.getD i 0))
    (x y : Int) (hx : x = ts.getD k 0) (hy : y = ns.getD k 0) :
    RdRow b n (k + 1) ts ns ((w.setCell ⟨b, k * 2, none⟩ (.int .i32 x)).setCell ⟨b, k * 2 + 1, none⟩ (.int .i32 y)) := by
  refine ⟨_, (hg.set _ _).set _ _, fun i hi => ?_⟩
  by_cases e : i = k
  · subst e
    simp [hx, hy]
  · rw [if_neg (by omega), if_neg (by omega), if_neg (by omega), if_neg (by omega)]
    exact hgz i (by omega)

theorem cellsE_at (E : List Edge) : ∀ i, i < E.length → (cellsE E)[i * 3]? = some (.int .i32 (E.getD i (0, 0, 0)).1) ∧ (cellsE E)[i * 3 + 1]? = some (.int .i32 (E.getD i (0, 0, 0)).2.1) ∧ (cellsE E)[i * 3 + 2]? = some (.int .u8 (E.getD i (0, 0, 0)).2.2) := by
  induction E with
  | nil => intro i hi; simp at hi
  | cons e r ih =>
    intro i hi
    match i with
    | 0 => simp [cellsE]
    | i + 1 =>
      have h := ih i (by simpa using hi)
      have e1 : (i + 1) * 3 = i * 3 + 3 := by omega
      simp only [e1, cellsE]
      simpa using h

/-- The three columns, the first j elements laid. -/
structure Cols (b n j : Nat) (E : List Edge) (w : World) : Prop where
  fr : w.rowIs b 21 n (fun i => if i < j then .int .i32 (E.getD i (0, 0, 0)).1 else .int .i32 0)
  to : w.rowIs (b + 1) 21 n (fun i => if i < j then .int .i32 (E.getD i (0, 0, 0)).2.1 else .int .i32 0)
  kd : w.rowIs (b + 2) 5 n (fun i => if i < j then .int .u8 (E.getD i (0, 0, 0)).2.2 else .int .u8 0)

theorem row_step {w : World} {b t n j : Nat} {k : IntKind} {f : Nat → Int} (h : w.rowIs b t n (fun i => if i < j then .int k (f i) else .int k 0)) (z : Int) (hz : z = f j) :
    (w.setCell ⟨b, j, none⟩ (.int k z)).rowIs b t n (fun i => if i < j + 1 then .int k (f i) else .int k 0) := by
  refine (h.set j _).congr (fun i hi => ?_)
  by_cases e : i = j
  · subst e; rw [if_pos rfl, if_pos (by omega), hz]
  · rw [if_neg e]
    by_cases e2 : i < j
    · rw [if_pos e2, if_pos (by omega)]
    · rw [if_neg e2, if_neg (by omega)]

theorem Cols.step {b n j : Nat} {E : List Edge} {w : World} (h : Cols b n j E w) (x y z : Int) (hx : x = (E.getD j (0, 0, 0)).1) (hy : y = (E.getD j (0, 0, 0)).2.1) (hz : z = (E.getD j (0, 0, 0)).2.2) :
    Cols b n (j + 1) E (((w.setCell ⟨b, j, none⟩ (.int .i32 x)).setCell ⟨b + 1, j, none⟩ (.int .i32 y)).setCell ⟨b + 2, j, none⟩ (.int .u8 z)) := by
  refine ⟨?_, ?_, ?_⟩
  · exact ((row_step (f := fun i => (E.getD i (0, 0, 0)).1) h.fr x hx).setOther (by show b ≠ b + 1; omega) _).setOther (by show b ≠ b + 2; omega) _
  · exact (row_step (f := fun i => (E.getD i (0, 0, 0)).2.1) (h.to.setOther (by show b + 1 ≠ b; omega) _) y hy).setOther (by show b + 1 ≠ b + 2; omega) _
  · exact row_step (f := fun i => (E.getD i (0, 0, 0)).2.2) ((h.kd.setOther (by show b + 2 ≠ b; omega) _).setOther (by show b + 2 ≠ b + 1; omega) _) z hz

theorem Cols.start (w : World) (n : Nat) (E : List Edge) : Cols w.heap.size n 0 E (((w.alloc (.cells (madeCells #[.int .i32 0] n) 21)).alloc (.cells (madeCells #[.int .i32 0] n) 21)).alloc (.cells (madeCells #[.int .u8 0] n) 5)) := by
  refine ⟨?_, ?_, ?_⟩
  · exact (((World.rowIs_made w _ n 21).alloc _).alloc _).congr (fun i _ => by simp)
  · have := ((World.rowIs_made (w.alloc (.cells (madeCells #[.int .i32 0] n) 21)) (.int .i32 0) n 21).alloc (.cells (madeCells #[.int .u8 0] n) 5))
    rw [Deep.nblk_alloc] at this
    exact this.congr (fun i _ => by simp)
  · have := World.rowIs_made ((w.alloc (.cells (madeCells #[.int .i32 0] n) 21)).alloc (.cells (madeCells #[.int .i32 0] n) 21)) (.int .u8 0) n 5
    rw [Deep.nblk_alloc, Deep.nblk_alloc] at this
    exact this.congr (fun i _ => by simp)

/-- What is owned, element by element. -/
theorem own_view {w : World} {base : Nat} {v : Value} {E : List Edge} (h : w.ownsRow base 44 3 v E.length (cellsE E)) :
    ∃ a cap, v = .slice a E.length cap ∧ ∀ i, i < E.length → ∃ g, a = some ⟨g, 0, none⟩ ∧ w.cell? ⟨g, i * 3, none⟩ = some (.int .i32 (E.getD i (0, 0, 0)).1) ∧
      w.cell? ⟨g, i * 3 + 1, none⟩ = some (.int .i32 (E.getD i (0, 0, 0)).2.1) ∧ w.cell? ⟨g, i * 3 + 2, none⟩ = some (.int .u8 (E.getD i (0, 0, 0)).2.2) := by
  have h0 := h
  rcases h.2 with ⟨rfl, hn⟩ | ⟨g, cap, cur, rfl, _⟩
  · exact ⟨none, 0, by rw [hn], fun i hi => by omega⟩
  · refine ⟨_, cap, rfl, fun i hi => ⟨g, rfl, ?_⟩⟩
    obtain ⟨c0, c1, c2⟩ := cellsE_at E i hi
    exact ⟨(h0.cellAt _ (by omega)).trans c0, (h0.cellAt _ (by omega)).trans c1, (h0.cellAt _ (by omega)).trans c2⟩

theorem told_some {K B w' : _} {ord ts ns : List Int} {wb : World} (ho : OrdRow B ord.length ord.length ord wb) (hk : wb.cell? ⟨K, 1, none⟩ = some (.slice (some ⟨w', 0, none⟩) ts.length ts.length)) (hr : RdRow w' ts.length ts.length ts ns wb) :
    Told K B w' (some ⟨w', 0, none⟩) ord ts ns wb := by
  obtain ⟨g, hg, hz⟩ := ho
  obtain ⟨g', hg', hz'⟩ := hr
  refine ⟨fun i hi => ?_, hk, fun _ => rfl, fun i hi => ?_, fun i hi => ?_⟩
  · rw [hg.cell (by omega), hz i hi]
  · rw [hg'.cell (by omega), (hz' i hi).1]
  · rw [hg'.cell (by omega), (hz' i hi).2]

theorem told_none {K B : _} {ord ts ns : List Int} {wb : World} (ho : OrdRow B ord.length ord.length ord wb) (hk : wb.cell? ⟨K, 1, none⟩ = some (.slice none 0 0)) (ht : ts.length = 0) :
    Told K B 0 none ord ts ns wb := by
  obtain ⟨g, hg, hz⟩ := ho
  refine ⟨fun i hi => ?_, by rw [ht]; exact hk, fun h => by omega, fun i hi => by omega, fun i hi => by omega⟩
  rw [hg.cell (by omega), hz i hi]

set_option maxHeartbeats 1600000 in
theorem zz_all (a0 a1 a2 : Option Addr) (ord ts ns : List Int) (w : World) (ho : ord.length ≤ 4096) (ht : ts.length ≤ 4096)
    (hns : ∀ i, i < ts.length → 0 ≤ ns.getD i 0 ∧ ns.getD i 0 ≤ ord.length)
    (r0 : IsRow .i32 w a0 ord.length ord.length ord) (r1 : IsRow .i32 w a1 ts.length ts.length ts) (r2 : IsRow .i32 w a2 ts.length ts.length ns) :
    Calls Try.prog 11 #[.slice a0 ord.length ord.length, .slice a1 ts.length ts.length, .slice a2 ts.length ts.length, .slice none 0 0, .slice none 0 0, .slice none 0 0] w fun e w' =>
      ∃ b1 b2 b3, e = .returned (.tuple #[.slice (some ⟨b1, 0, none⟩) (allE ord ts ns).length (allE ord ts ns).length, .slice (some ⟨b2, 0, none⟩) (allE ord ts ns).length (allE ord ts ns).length, .slice (some ⟨b3, 0, none⟩) (allE ord ts ns).length (allE ord ts ns).length]) ∧
        w'.rowIs b1 21 (allE ord ts ns).length (fun i => .int .i32 ((allE ord ts ns).getD i (0, 0, 0)).1) ∧
        w'.rowIs b2 21 (allE ord ts ns).length (fun i => .int .i32 ((allE ord ts ns).getD i (0, 0, 0)).2.1) ∧
        w'.rowIs b3 5 (allE ord ts ns).length (fun i => .int .u8 ((allE ord ts ns).getD i (0, 0, 0)).2.2) ∧ Below w.heap.size w w' := by
  have hmk30 := make_agg 30 32 #[.int .i32 0, .bool false, .bool false] 3 8 Try.underlying30 Try.info32 rfl ord.length (by omega) (by omega)
  have hmk35 := make_agg 35 40 #[.int .i32 0, .int .i32 0] 2 8 Try.underlying35 Try.info40 rfl ts.length (by omega) (by omega)
  go_enter Try.func11, Try.ntmps11
  go_wp2
  go_loopw [31] (fun i wr => ∃ k : Nat, k ≤ ord.length ∧ i = .int .i64 k ∧ OrdRow w.heap.size ord.length k ord wr ∧ Below w.heap.size w wr)
    (fun i _ => ord.length - (intOf i).toNat)
  case atStart =>
    obtain ⟨g, hg⟩ := rowIs_made_any w #[.int .i32 0, .bool false, .bool false] (ord.length * 3) 32
    exact ⟨0, Nat.zero_le _, rfl, ⟨g, hg, fun i hi => absurd hi (Nat.not_lt_zero _)⟩, (Below.refl _ _).alloc (Nat.le_refl _) _⟩
  case round =>
    obtain ⟨k, hk, rfl, hrow, hnx⟩ := hrel
    by_cases hlt : k < ord.length
    · obtain ⟨b, off, rfl, hlz, hcs, hbd⟩ := r0.at (by omega)
      have hcx : wr.cell? ⟨b, off + k, none⟩ = some (.int .i32 (ord.getD k 0)) := (hnx.cell (World.block_lt_of_cell? w ⟨b, off + k, none⟩ (hcs k (by omega)))).trans (hcs k (by omega))
      obtain ⟨z, hzz⟩ : ∃ z, z = ord.getD k 0 := ⟨_, rfl⟩
      rw [← hzz] at hcx
      have HZ : Hid (z = ord.getD k 0) := hzz
      obtain ⟨g, hg, hgz⟩ := hrow
      have d0 := hg.cell (i := k * 3) (by omega)
      have d1 := hg.cell (i := k * 3 + 1) (by omega)
      have d2 := hg.cell (i := k * 3 + 1 + 1) (by omega)
      have f0 := hg.frozen (k * 3)
      have f1 := hg.frozen (k * 3 + 1)
      have f2 := hg.frozen (k * 3 + 1 + 1)
      have GZ : Hid (∀ i, i < k → g (i * 3) = .int .i32 (ord.getD i 0)) := hgz
      clear hzz hcs hbd r0 r1 r2 hmk30 hmk35 hgz
      go_wp2
      go_roundw
      case rel => exact ⟨k + 1, by omega, by go_num, OrdRow.step hg GZ.out z HZ.out _ _, ((hnx.setCell (Nat.le_refl _) _).setCell (Nat.le_refl _) _).setCell (Nat.le_refl _) _⟩
      case measure => simp [intOf]; omega
    · have hke : k = ord.length := by omega
      subst hke
      have hob := hrow.lt
      have HROW : Hid (OrdRow w.heap.size ord.length ord.length ord wr) := hrow
      obtain ⟨K, hK⟩ : ∃ K, wr.heap.size = K := ⟨_, rfl⟩
      rw [hK] at hob
      clear hrow r0
      by_cases hm : 0 < ts.length
      · go_wp2
        go_loopw [56] (fun i wb => ∃ j : Nat, j ≤ ts.length ∧ i = .int .i64 j ∧ wb.cell? ⟨K, 1, none⟩ = some (.slice (some ⟨K + 1, 0, none⟩) ts.length ts.length) ∧ RdRow (K + 1) ts.length j ts ns wb ∧ OrdRow w.heap.size ord.length ord.length ord wb ∧ Below w.heap.size w wb)
          (fun i _ => ts.length - (intOf i).toNat)
        case atStart =>
          obtain ⟨g, hg⟩ := rowIs_made_any (wr.alloc (.cells #[.slice none 0 0, .slice (some ⟨K + 1, 0, none⟩) ts.length ts.length, .slice none 0 0, .int .i32 0] 38)) #[.int .i32 0, .int .i32 0] (ts.length * 2) 40
          refine ⟨0, Nat.zero_le _, rfl, ?_, ⟨g, ?_, fun i hi => absurd hi (Nat.not_lt_zero _)⟩, (HROW.out.alloc _).alloc _, (hnx.alloc (by omega) _).alloc (by simp; omega) _⟩
          · rw [World.cell?_alloc_past _ _ _ (by simp; omega), World.cell?_alloc_at _ _ _ _ hK.symm]; rfl
          · have e : (wr.alloc (.cells #[.slice none 0 0, .slice (some ⟨K + 1, 0, none⟩) ts.length ts.length, .slice none 0 0, .int .i32 0] 38)).heap.size = K + 1 := by simp [hK]
            rw [e] at hg
            exact hg
        case round =>
          obtain ⟨j, hj, rfl, hkey, hrd, hord, hnx2⟩ := hrel
          by_cases hjt : j < ts.length
          · obtain ⟨b1, o1, rfl, hl1, hc1, hbd1⟩ := r1.at (by omega)
            obtain ⟨b2, o2, rfl, hl2, hc2, hbd2⟩ := r2.at (by omega)
            have hb1 := World.block_lt_of_cell? w ⟨b1, o1 + j, none⟩ (hc1 j (by omega))
            have hb2 := World.block_lt_of_cell? w ⟨b2, o2 + j, none⟩ (hc2 j (by omega))
            have cx : wr.cell? ⟨b1, o1 + j, none⟩ = some (.int .i32 (ts.getD j 0)) := (hnx2.cell hb1).trans (hc1 j (by omega))
            have cy : wr.cell? ⟨b2, o2 + j, none⟩ = some (.int .i32 (ns.getD j 0)) := (hnx2.cell hb2).trans (hc2 j (by omega))
            obtain ⟨x, hx⟩ : ∃ z, z = ts.getD j 0 := ⟨_, rfl⟩
            obtain ⟨y, hy⟩ : ∃ z, z = ns.getD j 0 := ⟨_, rfl⟩
            rw [← hx] at cx
            rw [← hy] at cy
            have HX : Hid (x = ts.getD j 0) := hx
            have HY : Hid (y = ns.getD j 0) := hy
            obtain ⟨g, hg, hgz⟩ := hrd
            have d0 := hg.cell (i := j * 2) (by omega)
            have d1 := hg.cell (i := j * 2 + 1) (by omega)
            have f0 := hg.frozen (j * 2)
            have f1 := hg.frozen (j * 2 + 1)
            have GZ : Hid (∀ i, i < j → g (i * 2) = .int .i32 (ts.getD i 0) ∧ g (i * 2 + 1) = .int .i32 (ns.getD i 0)) := hgz
            have e0 : (0 : Int) ≤ (j : Int) := by omega
            have e1 : (j : Int) < (ts.length : Int) := by omega
            clear hx hy hc1 hc2 hbd1 hbd2 r1 r2 hgz hmk30 hmk35 HROW
            go_wp2
            go_region
            go_wp2
            go_roundw
            case rel =>
              refine ⟨j + 1, by omega, by go_num, ?_, RdRow.step hg GZ.out x y HX.out HY.out, (hord.setOther (by show w.heap.size ≠ K + 1; omega) _).setOther (by show w.heap.size ≠ K + 1; omega) _, ((hnx2.setCell (p := ⟨K + 1, _, none⟩) (by show w.heap.size ≤ K + 1; omega) _).setCell (p := ⟨K + 1, _, none⟩) (by show w.heap.size ≤ K + 1; omega) _).drew⟩
              show ((wr.setCell _ _).setCell _ _).cell? _ = _
              rw [World.cell?_of_block (w := wr) (by rw [Deep.blk_setCell_other _ _ _ _ (by show K ≠ K + 1; omega), Deep.blk_setCell_other _ _ _ _ (by show K ≠ K + 1; omega)])]
              exact hkey
            case measure => simp [intOf]; omega
          · have hje : j = ts.length := by omega
            subst hje
            have hT := told_some hord hkey hrd
            have hnxT := hnx2
            clear hrd hord hkey hnx2 HROW hK
            go_wp2_with fail
            refine (kd_any K w.heap.size (K + 1) _ ord ts ns _ ho ht hns hT).mono ?_
            rintro e w1 ⟨v, rfl, hown, hbel⟩
            have hbw : Below w.heap.size w w1 := hnxT.trans (hbel.mono hnxT.size)
            clear hbel hnxT hT
            obtain ⟨a, cap, rfl, hview⟩ := own_view hown
            obtain ⟨E, hE⟩ : ∃ E, E = allE ord ts ns := ⟨_, rfl⟩
            have hEl := allE_len ord ts ns
            rw [← hE] at hview hEl ⊢
            obtain ⟨n, hn⟩ : ∃ n, n = E.length := ⟨_, rfl⟩
            rw [← hn] at hview hEl ⊢
            have HN : Hid (n = (allE ord ts ns).length) := by show n = _; rw [hn, hE]
            have HE : Hid (E = allE ord ts ns) := hE
            have hmk22 := run_make_row' (P := Try.prog) 22 21 (.int .i32 0) 4 Try.underlying22 Try.info21 rfl .i64 .i64 n (by omega) (by omega)
            have hmk23 := run_make_row' (P := Try.prog) 23 5 (.int .u8 0) 1 Try.underlying23 Try.info5 rfl .i64 .i64 n (by omega) (by omega)
            have HV : Hid (∀ i, i < n → ∃ g, a = some ⟨g, 0, none⟩ ∧ w1.cell? ⟨g, i * 3, none⟩ = some (.int .i32 (E.getD i (0, 0, 0)).1) ∧ w1.cell? ⟨g, i * 3 + 1, none⟩ = some (.int .i32 (E.getD i (0, 0, 0)).2.1) ∧ w1.cell? ⟨g, i * 3 + 2, none⟩ = some (.int .u8 (E.getD i (0, 0, 0)).2.2)) := hview
            obtain ⟨L, hL⟩ : ∃ L, w1.heap.size = L := ⟨_, rfl⟩
            have hwL : w.heap.size ≤ L := by rw [← hL]; exact hbw.size
            clear hown hview hE hn hmk30 hmk35 r1 r2
            go_wp2
            go_loopw [118] (fun i wb => ∃ j : Nat, j ≤ n ∧ i = .int .i64 j ∧ Cols L n j E wb ∧ Below L w1 wb)
              (fun i _ => n - (intOf i).toNat)
            case atStart =>
              refine ⟨0, Nat.zero_le _, rfl, ?_, ?_⟩
              · rw [← hL]; exact Cols.start w1 n E
              · rw [← hL]; exact (((Below.refl _ w1).alloc (Nat.le_refl _) _).alloc (by simp) _).alloc (by simp; omega) _
            case round =>
              obtain ⟨j, hj, rfl, hcols, hnx3⟩ := hrel
              by_cases hjn : j < n
              · obtain ⟨g, rfl, q0, q1, q2⟩ := HV.out j hjn
                have hgL : g < L := by rw [← hL]; exact World.block_lt_of_cell? w1 ⟨g, j * 3, none⟩ q0
                have s0 := (hnx3.cell (p := ⟨g, j * 3, none⟩) hgL).trans q0
                have s1 := (hnx3.cell (p := ⟨g, j * 3 + 1, none⟩) hgL).trans q1
                have s2 := (hnx3.cell (p := ⟨g, j * 3 + 2, none⟩) hgL).trans q2
                obtain ⟨x, hx⟩ : ∃ x, x = (E.getD j (0, 0, 0)).1 := ⟨_, rfl⟩
                obtain ⟨y, hy⟩ : ∃ x, x = (E.getD j (0, 0, 0)).2.1 := ⟨_, rfl⟩
                obtain ⟨z, hz⟩ : ∃ x, x = (E.getD j (0, 0, 0)).2.2 := ⟨_, rfl⟩
                rw [← hx] at s0
                rw [← hy] at s1
                rw [← hz] at s2
                have t0 := hcols.fr.cell hjn
                have t1 := hcols.to.cell hjn
                have t2 := hcols.kd.cell hjn
                simp only [Nat.lt_irrefl, if_false] at t0 t1 t2
                have v0 := hcols.fr.frozen j
                have v1 := hcols.to.frozen j
                have v2 := hcols.kd.frozen j
                have R := hcols.step x y z hx hy hz
                have B := ((hnx3.setCell (p := ⟨L, j, none⟩) (by show L ≤ L; omega) (.int .i32 x)).setCell (p := ⟨L + 1, j, none⟩) (by show L ≤ L + 1; omega) (.int .i32 y)).setCell (p := ⟨L + 2, j, none⟩) (by show L ≤ L + 2; omega) (.int .u8 z)
                have HR := And.intro R B
                have HRB : Hid (Cols L n (j + 1) E (((wr.setCell ⟨L, j, none⟩ (.int .i32 x)).setCell ⟨L + 1, j, none⟩ (.int .i32 y)).setCell ⟨L + 2, j, none⟩ (.int .u8 z)) ∧ Below L w1 (((wr.setCell ⟨L, j, none⟩ (.int .i32 x)).setCell ⟨L + 1, j, none⟩ (.int .i32 y)).setCell ⟨L + 2, j, none⟩ (.int .u8 z))) := HR
                clear hx hy hz q0 q1 q2 R B HR HV hmk22 hmk23
                go_wp2
                go_roundw
                case rel => exact ⟨j + 1, by omega, by go_num, HRB.out.1, HRB.out.2⟩
                case measure => simp [intOf]; omega
              · have hjn' : j = n := by omega
                subst hjn'
                have hfin : Below w.heap.size w wr := hbw.trans (hnx3.mono hwL)
                have F : Hid (wr.rowIs L 21 j (fun i => .int .i32 (E.getD i (0, 0, 0)).1) ∧ wr.rowIs (L + 1) 21 j (fun i => .int .i32 (E.getD i (0, 0, 0)).2.1) ∧ wr.rowIs (L + 2) 5 j (fun i => .int .u8 (E.getD i (0, 0, 0)).2.2)) :=
                  ⟨hcols.fr.congr (fun i hi => if_pos hi), hcols.to.congr (fun i hi => if_pos hi), hcols.kd.congr (fun i hi => if_pos hi)⟩
                clear hcols HV hmk22 hmk23 hnx3
                go_wp2
                go_ret3
                rw [← HN.out, ← HE.out]
                exact ⟨L, L + 1, L + 2, rfl, F.out.1, F.out.2.1, F.out.2.2, hfin⟩
      · have hm0 : ts.length = 0 := by omega
        have hT : Told K w.heap.size 0 none ord ts ns (wr.alloc (.cells #[.slice none 0 0, .slice none 0 0, .slice none 0 0, .int .i32 0] 38)) := told_none (HROW.out.alloc _) (by rw [World.cell?_alloc_at _ _ _ _ hK.symm]; rfl) hm0
        have hnxT : Below w.heap.size w (wr.alloc (.cells #[.slice none 0 0, .slice none 0 0, .slice none 0 0, .int .i32 0] 38)) := hnx.alloc (by omega) _
        clear HROW hnx
        go_wp2_with fail
        refine (kd_any K w.heap.size 0 _ ord ts ns _ ho ht hns hT).mono ?_
        rintro e w1 ⟨v, rfl, hown, hbel⟩
        have hbw : Below w.heap.size w w1 := hnxT.trans (hbel.mono hnxT.size)
        clear hbel hnxT hT
        obtain ⟨a, cap, rfl, hview⟩ := own_view hown
        obtain ⟨E, hE⟩ : ∃ E, E = allE ord ts ns := ⟨_, rfl⟩
        have hEl := allE_len ord ts ns
        rw [← hE] at hview hEl ⊢
        obtain ⟨n, hn⟩ : ∃ n, n = E.length := ⟨_, rfl⟩
        rw [← hn] at hview hEl ⊢
        have HN : Hid (n = (allE ord ts ns).length) := by show n = _; rw [hn, hE]
        have HE : Hid (E = allE ord ts ns) := hE
        have hmk22 := run_make_row' (P := Try.prog) 22 21 (.int .i32 0) 4 Try.underlying22 Try.info21 rfl .i64 .i64 n (by omega) (by omega)
        have hmk23 := run_make_row' (P := Try.prog) 23 5 (.int .u8 0) 1 Try.underlying23 Try.info5 rfl .i64 .i64 n (by omega) (by omega)
        have HV : Hid (∀ i, i < n → ∃ g, a = some ⟨g, 0, none⟩ ∧ w1.cell? ⟨g, i * 3, none⟩ = some (.int .i32 (E.getD i (0, 0, 0)).1) ∧ w1.cell? ⟨g, i * 3 + 1, none⟩ = some (.int .i32 (E.getD i (0, 0, 0)).2.1) ∧ w1.cell? ⟨g, i * 3 + 2, none⟩ = some (.int .u8 (E.getD i (0, 0, 0)).2.2)) := hview
        obtain ⟨L, hL⟩ : ∃ L, w1.heap.size = L := ⟨_, rfl⟩
        have hwL : w.heap.size ≤ L := by rw [← hL]; exact hbw.size
        clear hown hview hE hn hmk30 hmk35 r1 r2
        go_wp2
        go_loopw [118] (fun i wb => ∃ j : Nat, j ≤ n ∧ i = .int .i64 j ∧ Cols L n j E wb ∧ Below L w1 wb)
          (fun i _ => n - (intOf i).toNat)
        case atStart =>
          refine ⟨0, Nat.zero_le _, rfl, ?_, ?_⟩
          · rw [← hL]; exact Cols.start w1 n E
          · rw [← hL]; exact (((Below.refl _ w1).alloc (Nat.le_refl _) _).alloc (by simp) _).alloc (by simp; omega) _
        case round =>
          obtain ⟨j, hj, rfl, hcols, hnx3⟩ := hrel
          by_cases hjn : j < n
          · obtain ⟨g, rfl, q0, q1, q2⟩ := HV.out j hjn
            have hgL : g < L := by rw [← hL]; exact World.block_lt_of_cell? w1 ⟨g, j * 3, none⟩ q0
            have s0 := (hnx3.cell (p := ⟨g, j * 3, none⟩) hgL).trans q0
            have s1 := (hnx3.cell (p := ⟨g, j * 3 + 1, none⟩) hgL).trans q1
            have s2 := (hnx3.cell (p := ⟨g, j * 3 + 2, none⟩) hgL).trans q2
            obtain ⟨x, hx⟩ : ∃ x, x = (E.getD j (0, 0, 0)).1 := ⟨_, rfl⟩
            obtain ⟨y, hy⟩ : ∃ x, x = (E.getD j (0, 0, 0)).2.1 := ⟨_, rfl⟩
            obtain ⟨z, hz⟩ : ∃ x, x = (E.getD j (0, 0, 0)).2.2 := ⟨_, rfl⟩
            rw [← hx] at s0
            rw [← hy] at s1
            rw [← hz] at s2
            have t0 := hcols.fr.cell hjn
            have t1 := hcols.to.cell hjn
            have t2 := hcols.kd.cell hjn
            simp only [Nat.lt_irrefl, if_false] at t0 t1 t2
            have v0 := hcols.fr.frozen j
            have v1 := hcols.to.frozen j
            have v2 := hcols.kd.frozen j
            have R := hcols.step x y z hx hy hz
            have B := ((hnx3.setCell (p := ⟨L, j, none⟩) (by show L ≤ L; omega) (.int .i32 x)).setCell (p := ⟨L + 1, j, none⟩) (by show L ≤ L + 1; omega) (.int .i32 y)).setCell (p := ⟨L + 2, j, none⟩) (by show L ≤ L + 2; omega) (.int .u8 z)
            have HR := And.intro R B
            have HRB : Hid (Cols L n (j + 1) E (((wr.setCell ⟨L, j, none⟩ (.int .i32 x)).setCell ⟨L + 1, j, none⟩ (.int .i32 y)).setCell ⟨L + 2, j, none⟩ (.int .u8 z)) ∧ Below L w1 (((wr.setCell ⟨L, j, none⟩ (.int .i32 x)).setCell ⟨L + 1, j, none⟩ (.int .i32 y)).setCell ⟨L + 2, j, none⟩ (.int .u8 z))) := HR
            clear hx hy hz q0 q1 q2 R B HR HV hmk22 hmk23
            go_wp2
            go_roundw
            case rel => exact ⟨j + 1, by omega, by go_num, HRB.out.1, HRB.out.2⟩
            case measure => simp [intOf]; omega
          · have hjn' : j = n := by omega
            subst hjn'
            have hfin : Below w.heap.size w wr := hbw.trans (hnx3.mono hwL)
            have F : Hid (wr.rowIs L 21 j (fun i => .int .i32 (E.getD i (0, 0, 0)).1) ∧ wr.rowIs (L + 1) 21 j (fun i => .int .i32 (E.getD i (0, 0, 0)).2.1) ∧ wr.rowIs (L + 2) 5 j (fun i => .int .u8 (E.getD i (0, 0, 0)).2.2)) :=
              ⟨hcols.fr.congr (fun i hi => if_pos hi), hcols.to.congr (fun i hi => if_pos hi), hcols.kd.congr (fun i hi => if_pos hi)⟩
            clear hcols HV hmk22 hmk23 hnx3
            go_wp2
            go_ret3
            rw [← HN.out, ← HE.out]
            exact ⟨L, L + 1, L + 2, rfl, F.out.1, F.out.2.1, F.out.2.2, hfin⟩

end Go.Proofs.Qxb6004011a
