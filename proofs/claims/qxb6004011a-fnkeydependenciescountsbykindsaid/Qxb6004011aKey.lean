/-
  'keyDependencies': what it hands back owns just the edges of 'allE'.
-/
import Derived.Test.Qxb6004011aDepend
import Derived.Deep.QuietTactic
import Derived.BigQuiet
import Derived.BigRegion
import Derived.Deep.RegionWith
import Derived.RegionTactic
import Derived.Deep.RegionHeld3
namespace Go.Proofs.Qxb6004011a
open Go.ChangeShapes Go.WideShapes Go.ChangeAt Go.RowKit
set_option linter.unusedVariables false

/-- What 'keyDependencies' is told: the order's row (three cells an element), the key's field 'prefixes', the reads' row (two cells an element). -/
structure Told (Bk Bo Bp : Nat) (ap : Option Addr) (ord ts ns : List Int) (w : World) : Prop where
  ord : ∀ i, i < ord.length → w.cell? ⟨Bo, i * 3, none⟩ = some (.int .i32 (ord.getD i 0))
  key : w.cell? ⟨Bk, 1, none⟩ = some (.slice ap ts.length ts.length)
  pre : 0 < ts.length → ap = some ⟨Bp, 0, none⟩
  txn : ∀ i, i < ts.length → w.cell? ⟨Bp, i * 2, none⟩ = some (.int .i32 (ts.getD i 0))
  num : ∀ i, i < ts.length → w.cell? ⟨Bp, i * 2 + 1, none⟩ = some (.int .i32 (ns.getD i 0))

theorem Told.below {Bk Bo Bp B : Nat} {ap : Option Addr} {ord ts ns : List Int} {w w' : World} (h : Told Bk Bo Bp ap ord ts ns w) (hb : Below B w w') (hB : w.heap.size ≤ B) : Told Bk Bo Bp ap ord ts ns w' := by
  have key : ∀ (a : Addr) v, w.cell? a = some v → w'.cell? a = some v := fun a v hc => (hb.cell (by have := World.block_lt_of_cell? w a hc; omega)).trans hc
  exact ⟨fun i hi => key _ _ (h.ord i hi), key _ _ h.key, h.pre, fun i hi => key _ _ (h.txn i hi), fun i hi => key _ _ (h.num i hi)⟩

theorem Inv.alloc {Bv base : Nat} {E : List Edge} {w : World} (h : Inv Bv base E w) (o : Obj) : Inv Bv base E (w.alloc o) := by
  obtain ⟨h1, h2, v, h3, h4⟩ := h
  exact ⟨h1, by simp; omega, v, (Below.heap_alloc _ _ _ (lt_of_block h3)).trans h3, h4.alloc o⟩

theorem Inv.cap {Bv base : Nat} {E : List Edge} {w : World} (h : Inv Bv base E w) : ∃ v, w.cell? ⟨Bv, 0, none⟩ = some v ∧ w.ownsRow base 44 3 v E.length (cellsE E) := by
  obtain ⟨h1, h2, v, h3, h4⟩ := h
  exact ⟨v, cell_of_one h3, h4⟩

/-- A block of two cells: what they hold. -/
theorem cells_of_two {w : World} {b : Nat} {x y : Value} {t : TypeId} (h : w.heap[b]? = some (.cells #[x, y] t (0, 0))) : w.cell? ⟨b, 0, none⟩ = some x ∧ w.cell? ⟨b, 1, none⟩ = some y := by simp [World.cell?, h]

set_option maxHeartbeats 1600000 in
theorem kd_any (Bk Bo Bp : Nat) (ap : Option Addr) (ord ts ns : List Int) (w : World) (ho : ord.length ≤ 4096) (ht : ts.length ≤ 4096)
    (hns : ∀ i, i < ts.length → 0 ≤ ns.getD i 0 ∧ ns.getD i 0 ≤ ord.length) (h : Told Bk Bo Bp ap ord ts ns w) :
    Calls Try.prog 15 #[.pointer (some ⟨Bk, 0, none⟩), .slice (some ⟨Bo, 0, none⟩) ord.length ord.length, .slice none 0 0] w fun e w' =>
      ∃ v, e = .returned v ∧ w'.ownsRow (w.heap.size + 1) 44 3 v (allE ord ts ns).length (cellsE (allE ord ts ns)) ∧ Below w.heap.size w w' := by
  go_enter Try.func15, Try.ntmps15
  go_wp2
  go_loopw [8] (fun i wr => ∃ n : Nat, 1 ≤ n ∧ (n ≤ ord.length ∨ n = 1) ∧ i = .int .i64 n ∧ Inv w.heap.size (w.heap.size + 1) (wwE ord (n - 1)) wr ∧ Below w.heap.size w wr)
    (fun i _ => ord.length - (intOf i).toNat)
  case atStart => 
    refine ⟨1, Nat.le_refl _, Or.inr rfl, rfl, ⟨Nat.lt_succ_self _, ?_, _, heap_alloc_new _ _, World.ownsRow_nil _ _ _ _⟩, (Below.refl _ _).alloc (Nat.le_refl _) _⟩
    simp
  case round =>
    obtain ⟨n, hn1, hn2, rfl, hinv, hnx⟩ := hrel
    by_cases hlt : n < ord.length
    · obtain ⟨k, hk⟩ : ∃ k, k + 1 = n := ⟨n - 1, by omega⟩
      have T := h.below hnx (Nat.le_refl _)
      have c1 := T.ord k (by omega)
      have c2 := T.ord n (by omega)
      have hEl := wwE_len ord (n - 1)
      obtain ⟨f, hf⟩ : ∃ f, f = ord.getD k 0 := ⟨_, rfl⟩
      obtain ⟨t, ht'⟩ : ∃ t, t = ord.getD n 0 := ⟨_, rfl⟩
      rw [← hf] at c1
      rw [← ht'] at c2
      have HE : Hid (wwE ord n = wwE ord (n - 1) ++ dep f t 0) := by rw [hf, ht', ← hk]; rfl
      have e1 : IntKind.i64.wrap ((n : Int) - 1) = (k : Int) := by rw [IntKind.wrap_i64]; omega
      have e2 : (k : Int) < (ord.length : Int) := by omega
      have e3 : (n : Int) < (ord.length : Int) := by omega
      have e4 : (0 : Int) ≤ (k : Int) := by omega
      have e5 : (0 : Int) ≤ (n : Int) := by omega
      have hBo : Bo < w.heap.size := World.block_lt_of_cell? w ⟨Bo, n * 3, none⟩ (h.ord n (by omega))
      have hk1 : k + 1 ≤ n := by omega
      have hk2 : n ≤ k + 1 := by omega
      have hkn : Hid (k + 1 = n) := hk
      clear hf ht' T h hk
      go_wp2
      go_region_held3 (fun w' => w'.cell? ⟨Bo, k * 3, none⟩ = some (.int .i32 f) ∧ w'.cell? ⟨Bo, n * 3, none⟩ = some (.int .i32 t)) (first | go_keep | exact ⟨(hbel.cell (p := ⟨Bo, k * 3, none⟩) hBo).trans c1, (hbel.cell (p := ⟨Bo, n * 3, none⟩) hBo).trans c2⟩) ((go_at_call 16; refine (dep_any w.heap.size (w.heap.size + 1) (wwE ord (n - 1)) f t 0 _ ?_ (by omega)).mono ?_; exact hinv; rintro e w' ⟨rfl, hinv', hbel, hkeep⟩))
      go_wp2
      go_roundw
      case rel =>
        refine ⟨n + 1, by omega, Or.inl (by omega), by go_num, ?_, hnx.drew.trans hbel⟩
        rw [Nat.add_sub_cancel, HE.out]
        exact hinv'
      case measure => simp [intOf]; omega
    · have hE : Inv w.heap.size (w.heap.size + 1) (wwE ord (ord.length - 1)) wr := by
        rcases hn2 with hn2 | hn2
        · have : n = ord.length := by omega
          rw [← this]; exact hinv
        · have e : ord.length - 1 = n - 1 := by omega
          rw [e]; exact hinv
      have T := h.below hnx (Nat.le_refl _)
      have ck := T.key
      have hl1 := wwE_len ord (ord.length - 1)
      clear hinv T hn2
      go_wp2
      go_loopw [36] (fun i wr => ∃ j : Nat, j ≤ ts.length ∧ i = .int .i64 j ∧ Inv w.heap.size (w.heap.size + 1) (wwE ord (ord.length - 1) ++ rdE ord ts ns j) wr ∧ Below w.heap.size w wr)
        (fun i _ => ts.length - (intOf i).toNat)
      case atStart => exact ⟨0, Nat.zero_le _, rfl, by rw [show rdE ord ts ns 0 = [] from rfl, List.append_nil]; exact hE, hnx⟩
      case round =>
        obtain ⟨j, hj, rfl, hinv, hnx2⟩ := hrel
        by_cases hjt : j < ts.length
        · have hap := h.pre (by omega)
          have T := h.below hnx2 (Nat.le_refl _)
          have cT := T.txn j hjt
          have cN := T.num j hjt
          obtain ⟨hz1, hz2⟩ := hns j hjt
          have hEl := rdE_len ord ts ns j
          obtain ⟨p, hp⟩ : ∃ p : Nat, (p : Int) = ns.getD j 0 := ⟨(ns.getD j 0).toNat, by omega⟩
          obtain ⟨tt, htt⟩ : ∃ t, t = ts.getD j 0 := ⟨_, rfl⟩
          have HE : Hid (rdE ord ts ns (j + 1) = rdE ord ts ns j ++ wrD ord tt p ++ rwD ord tt p) := by rw [hp, htt]; rfl
          rw [← hp] at cN hz2
          rw [← htt] at cT
          have hpl : p ≤ ord.length := by omega
          have cO : ∀ i, i < ord.length → wr.cell? ⟨Bo, i * 3, none⟩ = some (.int .i32 (ord.getD i 0)) := T.ord
          have hBo : ∀ i, i < ord.length → Bo < w.heap.size := fun i hi => World.block_lt_of_cell? w ⟨Bo, i * 3, none⟩ (h.ord i hi)
          have hWr : w.heap.size < wr.heap.size := by obtain ⟨_, h2, _⟩ := hinv; omega
          subst hap
          clear hp htt hz1 hz2 T h hns ck hE hnx
          have e0 : (0 : Int) ≤ (j : Int) := by omega
          have e1 : (j : Int) < (ts.length : Int) := by omega
          have e5 : (0 : Int) ≤ (p : Int) := by omega
          have hP : Hid (∀ i, i < ord.length → wr.cell? ⟨Bo, i * 3, none⟩ = some (.int .i32 (ord.getD i 0))) := cO
          clear cO
          obtain ⟨W1, hW1⟩ : ∃ W1, W1 = wr.alloc (.cells #[.int .i32 tt, .int .i32 p] 40) := ⟨_, rfl⟩
          have r0 : W1.heap[wr.heap.size]? = some (.cells #[.int .i32 tt, .int .i32 p] 40 (0, 0)) := by rw [hW1]; exact heap_alloc_new _ _
          have hI : Inv w.heap.size (w.heap.size + 1) (wwE ord (ord.length - 1) ++ rdE ord ts ns j) W1 := by rw [hW1]; exact hinv.alloc _
          have hb1 : Below w.heap.size w W1 := by rw [hW1]; exact hnx2.alloc (by omega) _
          have cO1 : ∀ i, i < ord.length → W1.cell? ⟨Bo, i * 3, none⟩ = some (.int .i32 (ord.getD i 0)) := fun i hi => by
            rw [hW1]; exact ((Below.refl wr.heap.size wr).alloc (Nat.le_refl _) _).cell (World.block_lt_of_cell? wr ⟨Bo, i * 3, none⟩ (hP.out i hi)) |>.trans (hP.out i hi)
          have hP1 : Hid (∀ i, i < ord.length → W1.cell? ⟨Bo, i * 3, none⟩ = some (.int .i32 (ord.getD i 0))) := cO1
          have hne : wr.heap.size ≠ w.heap.size := by omega
          have r1 := (cells_of_two r0).1
          have r2 := (cells_of_two r0).2
          have HW1 : Hid (wr.alloc (.cells #[.int .i32 tt, .int .i32 p] 40) = W1) := hW1.symm
          have hlenE : (wwE ord (ord.length - 1) ++ rdE ord ts ns j).length ≤ 20000 := by simp only [List.length_append]; omega
          clear cO1 hW1 hinv hP
          by_cases hp0 : 0 < p
          · obtain ⟨k, hk⟩ : ∃ k, k + 1 = p := ⟨p - 1, by omega⟩
            have c1 := hP1.out k (by omega)
            obtain ⟨f, hf⟩ : ∃ f, f = ord.getD k 0 := ⟨_, rfl⟩
            rw [← hf] at c1
            have HW : Hid (wrD ord tt p = dep f tt 1) := by unfold wrD; rw [if_pos (by omega), hf, ← hk]; rfl
            have q1 : IntKind.i32.wrap ((p : Int) - 1) = (k : Int) := by rw [IntKind.wrap_i32]; omega
            have q2 : (k : Int) < (ord.length : Int) := by omega
            have q3 : (0 : Int) ≤ (k : Int) := by omega
            have hB := hBo k (by omega)
            have hk1 : k + 1 ≤ p := by omega
            have hk2 : p ≤ k + 1 := by omega
            have hdl := dep_len f tt 1
            clear hf hk
            by_cases hpl2 : p < ord.length
            · have q4 : (p : Int) < (ord.length : Int) := by omega
              have c3 := hP1.out p hpl2
              obtain ⟨g, hg⟩ : ∃ g, g = ord.getD p 0 := ⟨_, rfl⟩
              rw [← hg] at c3
              have HR : Hid (rwD ord tt p = dep tt g 2) := by unfold rwD; rw [if_pos (by omega), hg]; rfl
              clear hg
              go_wp2
              rw [HW1.out]
              go_region_held3 (fun w' => w'.cell? ⟨wr.heap.size, 1, none⟩ = some (.int .i32 p) ∧ w'.cell? ⟨wr.heap.size, 0, none⟩ = some (.int .i32 tt) ∧ w'.cell? ⟨Bo, k * 3, none⟩ = some (.int .i32 f)) (first | go_keep | exact ⟨(cells_of_two (hkeep _ _ _ r0 hne (by decide))).2, (cells_of_two (hkeep _ _ _ r0 hne (by decide))).1, (hbel.cell (p := ⟨Bo, k * 3, none⟩) hB).trans c1⟩) ((go_at_call 16; refine (dep_any w.heap.size (w.heap.size + 1) (wwE ord (ord.length - 1) ++ rdE ord ts ns j) f tt 1 _ ?_ (by omega)).mono ?_; exact hI; rintro e w' ⟨rfl, hinv', hbel, hkeep⟩))
              have r0' := hkeep _ _ _ r0 hne (by decide)
              have r1' := (cells_of_two r0').1
              have r2' := (cells_of_two r0').2
              have c3' := (hbel.cell (p := ⟨Bo, p * 3, none⟩) hB).trans c3
              go_wp2
              go_region_held3 (fun w' => w'.cell? ⟨wr.heap.size, 1, none⟩ = some (.int .i32 p) ∧ w'.cell? ⟨wr.heap.size, 0, none⟩ = some (.int .i32 tt) ∧ w'.cell? ⟨Bo, p * 3, none⟩ = some (.int .i32 g)) (first | go_keep | exact ⟨(cells_of_two (hkeep2 _ _ _ r0' hne (by decide))).2, (cells_of_two (hkeep2 _ _ _ r0' hne (by decide))).1, (hbel2.cell (p := ⟨Bo, p * 3, none⟩) hB).trans c3'⟩) ((go_at_call 16; refine (dep_any w.heap.size (w.heap.size + 1) (wwE ord (ord.length - 1) ++ rdE ord ts ns j ++ dep f tt 1) tt g 2 _ ?_ (by simp only [List.length_append] at hlenE ⊢; omega)).mono ?_; exact hinv'; rintro e w'' ⟨rfl, hinv2, hbel2, hkeep2⟩))
              go_wp2
              go_roundw
              case rel =>
                refine ⟨j + 1, by omega, by go_num, ?_, (hb1.drew.trans hbel).drew.trans hbel2⟩
                rw [HE.out, HW.out, HR.out, ← List.append_assoc, ← List.append_assoc]
                exact hinv2
              case measure => simp [intOf]; omega
            · have HR : Hid (rwD ord tt p = []) := by unfold rwD; rw [if_neg (by omega)]; rfl
              go_wp2
              rw [HW1.out]
              go_region_held3 (fun w' => w'.cell? ⟨wr.heap.size, 1, none⟩ = some (.int .i32 p) ∧ w'.cell? ⟨wr.heap.size, 0, none⟩ = some (.int .i32 tt) ∧ w'.cell? ⟨Bo, k * 3, none⟩ = some (.int .i32 f)) (first | go_keep | exact ⟨(cells_of_two (hkeep _ _ _ r0 hne (by decide))).2, (cells_of_two (hkeep _ _ _ r0 hne (by decide))).1, (hbel.cell (p := ⟨Bo, k * 3, none⟩) hB).trans c1⟩) ((go_at_call 16; refine (dep_any w.heap.size (w.heap.size + 1) (wwE ord (ord.length - 1) ++ rdE ord ts ns j) f tt 1 _ ?_ (by omega)).mono ?_; exact hI; rintro e w' ⟨rfl, hinv', hbel, hkeep⟩))
              have r0' := hkeep _ _ _ r0 hne (by decide)
              have r1' := (cells_of_two r0').1
              have r2' := (cells_of_two r0').2
              go_wp2
              go_roundw
              case rel =>
                refine ⟨j + 1, by omega, by go_num, ?_, hb1.drew.trans hbel⟩
                rw [HE.out, HW.out, HR.out, List.append_nil, ← List.append_assoc]
                exact hinv'
              case measure => simp [intOf]; omega
          · have HW : Hid (wrD ord tt p = []) := by unfold wrD; rw [if_neg (by omega)]; rfl
            by_cases hpl2 : p < ord.length
            · have q4 : (p : Int) < (ord.length : Int) := by omega
              have c3 := hP1.out p hpl2
              have hB := hBo p hpl2
              obtain ⟨g, hg⟩ : ∃ g, g = ord.getD p 0 := ⟨_, rfl⟩
              rw [← hg] at c3
              have HR : Hid (rwD ord tt p = dep tt g 2) := by unfold rwD; rw [if_pos (by omega), hg]; rfl
              clear hg
              go_wp2
              rw [HW1.out]
              go_region_held3 (fun w' => w'.cell? ⟨wr.heap.size, 1, none⟩ = some (.int .i32 p) ∧ w'.cell? ⟨wr.heap.size, 0, none⟩ = some (.int .i32 tt) ∧ w'.cell? ⟨Bo, p * 3, none⟩ = some (.int .i32 g)) (first | go_keep | exact ⟨(cells_of_two (hkeep2 _ _ _ r0 hne (by decide))).2, (cells_of_two (hkeep2 _ _ _ r0 hne (by decide))).1, (hbel2.cell (p := ⟨Bo, p * 3, none⟩) hB).trans c3⟩) ((go_at_call 16; refine (dep_any w.heap.size (w.heap.size + 1) (wwE ord (ord.length - 1) ++ rdE ord ts ns j) tt g 2 _ ?_ (by omega)).mono ?_; exact hI; rintro e w'' ⟨rfl, hinv2, hbel2, hkeep2⟩))
              go_wp2
              go_roundw
              case rel =>
                refine ⟨j + 1, by omega, by go_num, ?_, hb1.drew.trans hbel2⟩
                rw [HE.out, HW.out, HR.out, List.append_nil, ← List.append_assoc]
                exact hinv2
              case measure => simp [intOf]; omega
            · have HR : Hid (rwD ord tt p = []) := by unfold rwD; rw [if_neg (by omega)]; rfl
              go_wp2
              rw [HW1.out]
              go_roundw
              case rel =>
                refine ⟨j + 1, by omega, by go_num, ?_, hb1⟩
                rw [HE.out, HW.out, HR.out, List.append_nil, List.append_nil]
                exact hI
              case measure => simp [intOf]; omega
        · have hje : j = ts.length := by omega
          subst hje
          obtain ⟨v, cV, hown⟩ := hinv.cap
          clear hinv hE ck
          go_wp2
          go_ret
          exact ⟨v, rfl, hown, hnx2⟩

end Go.Proofs.Qxb6004011a
