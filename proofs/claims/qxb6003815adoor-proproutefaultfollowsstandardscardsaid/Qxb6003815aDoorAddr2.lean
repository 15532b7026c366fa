/-
  net/netip on the road, second part: IPv4Unspecified, IPv6Unspecified, IsUnspecified.
-/
import Derived.Test.Qxb6003815aDoorAddr
import Derived.LaidEql
namespace Go.Proofs.Qxb6003815aDoor
open Go.ChangeShapes Go.WideShapes Go.ChangeAt Go.RowKit
set_option linter.unusedVariables false

set_option maxRecDepth 100000 in
set_option maxHeartbeats 800000 in
theorem unspec4_any (a4 a6 : Addr) (w : World) (h : Glob a4 a6 w) :
    Calls Tryd.prog 17 #[] w fun e w' => e = .returned (.agg #[.int .u64 0, .int .u64 281470681743360, .pointer (some a4)]) ∧ Below w.heap.size w w' := by
  have hsz := h.size
  have hG := h.below ((Below.refl _ w).alloc (Nat.le_refl _) (.cells #[.int .u64 0, .int .u64 0, .pointer none] 41)) (Nat.le_refl _)
  go_enter Tryd.func17, Tryd.ntmps17
  go_wp2_with fail
  refine (from4_any 0 0 0 0 a4 _ (by omega) (by omega) (by omega) (by omega) hG.z4 (by simp)).mono ?_
  rintro e w' ⟨rfl, hb⟩
  rw [show lo4 0 0 0 0 = 281470681743360 from rfl]
  have hb' : Below (w.heap.size + 1) (w.alloc (.cells #[.int .u64 0, .int .u64 0, .pointer none] 41)) w' := by simpa using hb
  have c0 := (hb'.cell (p := ⟨w.heap.size, 0, none⟩) (by show w.heap.size < w.heap.size + 1; omega)).trans (World.cell?_alloc_at _ _ _ _ rfl)
  have c1 := (hb'.cell (p := ⟨w.heap.size, 1, none⟩) (by show w.heap.size < w.heap.size + 1; omega)).trans (World.cell?_alloc_at _ _ _ _ rfl)
  have c2 := (hb'.cell (p := ⟨w.heap.size, 2, none⟩) (by show w.heap.size < w.heap.size + 1; omega)).trans (World.cell?_alloc_at _ _ _ _ rfl)
  have hblk : w'.heap[w.heap.size]? = some (.cells #[.int .u64 0, .int .u64 0, .pointer none] 41 (0, 0)) := (hb'.block _ (by omega)).trans (heap_alloc_new _ _)
  have f0 : w'.frozen? ⟨w.heap.size, 0, none⟩ = false := by simp [World.frozen?, hblk]
  have f1 : w'.frozen? ⟨w.heap.size, 1, none⟩ = false := by simp [World.frozen?, hblk]
  have f2 : w'.frozen? ⟨w.heap.size, 2, none⟩ = false := by simp [World.frozen?, hblk]
  have hB : Below w.heap.size w w' := ((Below.refl _ w).alloc (Nat.le_refl _) _).trans (hb'.mono (by omega))
  simp at c0 c1 c2
  clear hb hb' hblk hG h
  go_wp2
  exact bodyPost_ret (v := .agg #[.int .u64 0, .int .u64 281470681743360, .pointer (some a4)]) (by simp [results, Tryd.results17, go_sem, c0, c1, c2]) rfl
    ⟨rfl, ((hB.setCell (p := ⟨w.heap.size, 0, none⟩) (Nat.le_refl _) _).setCell (p := ⟨w.heap.size, 1, none⟩) (Nat.le_refl _) _).setCell (p := ⟨w.heap.size, 2, none⟩) (Nat.le_refl _) _⟩

set_option maxRecDepth 100000 in
set_option maxHeartbeats 800000 in
theorem unspec6_any (a4 a6 : Addr) (w : World) (h : Glob a4 a6 w) :
    Calls Tryd.prog 18 #[] w fun e w' => e = .returned (.agg #[.int .u64 0, .int .u64 0, .pointer (some a6)]) ∧ Below w.heap.size w w' := by
  have hsz := h.size
  have hz := h.z6
  have hw : 1 < w.heap.size := by omega
  clear h
  go_enter Tryd.func18, Tryd.ntmps18
  go_wp2
  exact bodyPost_ret (v := .agg #[.int .u64 0, .int .u64 0, .pointer (some a6)]) (by simp [results, Tryd.results18, go_sem]) rfl ⟨rfl, (Below.refl _ _).alloc (Nat.le_refl _) _⟩

theorem Tryd.info110 : (Tryd.prog.info? 110).map (fun i => i.size) = some 2 := by kernel_rfl

/-- Equality of two addresses, by their three cells. -/
theorem run_addr_ints (hi lo hi' lo' : Int) (a b : Option Addr) (w : World) (h : ¬ (hi = hi' ∧ lo = lo')) :
    (Op.equalIn 10000 41 (.agg #[.int .u64 hi, .int .u64 lo, .pointer a]) (.agg #[.int .u64 hi', .int .u64 lo', .pointer b])).run Tryd.prog w = .ok false w := by
  by_cases e1 : hi = hi'
  · have e2 : ¬ lo = lo' := fun e => h ⟨e1, e⟩
    have f1 : (hi == hi') = true := by simp [e1]
    have f2 : (lo == lo') = false := by simp [e2]
    go_simp
  · have f1 : (hi == hi') = false := by simp [e1]
    go_simp

theorem run_ptr37_same (d : Nat) (a : Addr) (w : World) : (Op.equalIn (d + 1) 37 (.pointer (some a)) (.pointer (some a))).run Tryd.prog w = .ok true w := by
  obtain ⟨i, hi, hs⟩ := Option.map_eq_some_iff.1 Tryd.info110
  simp [Op.equalIn, run_underlying Tryd.underlying37, sizeOf, typeInfo, hi, run_sameAddr_same]

theorem run_ptr37_other (d : Nat) {a b : Addr} {ca cb : Array Value} {ta tb : TypeId} (w : World) (hne : a ≠ b) (ha : w.heap[a.block]? = some (.cells ca ta (0, 0))) (hb : w.heap[b.block]? = some (.cells cb tb (0, 0))) :
    (Op.equalIn (d + 1) 37 (.pointer (some a)) (.pointer (some b))).run Tryd.prog w = .ok false w := by
  obtain ⟨i, hi, hs⟩ := Option.map_eq_some_iff.1 Tryd.info110
  simp [Op.equalIn, run_underlying Tryd.underlying37, sizeOf, typeInfo, hi, hs, run_sameAddr_other w hne ha hb]

theorem run_addr_same (hi lo : Int) (a : Addr) (w : World) :
    (Op.equalIn 10000 41 (.agg #[.int .u64 hi, .int .u64 lo, .pointer (some a)]) (.agg #[.int .u64 hi, .int .u64 lo, .pointer (some a)])).run Tryd.prog w = .ok true w := by
  have hp := run_ptr37_same 9997 a
  go_simp

theorem run_addr_other (hi lo : Int) {a b : Addr} {ca cb : Array Value} {ta tb : TypeId} (w : World) (hne : a ≠ b) (ha : w.heap[a.block]? = some (.cells ca ta (0, 0))) (hb : w.heap[b.block]? = some (.cells cb tb (0, 0))) :
    (Op.equalIn 10000 41 (.agg #[.int .u64 hi, .int .u64 lo, .pointer (some a)]) (.agg #[.int .u64 hi, .int .u64 lo, .pointer (some b)])).run Tryd.prog w = .ok false w := by
  have hp := run_ptr37_other 9997 w hne ha hb
  go_simp

theorem Glob.drew {a4 a6 : Addr} {w : World} (h : Glob a4 a6 w) : Glob a4 a6 w.drew := ⟨h.z4, h.z6, h.kinds, h.ne, h.b4, h.b6, h.size⟩

/-- Three cells of a block in a later world. -/
theorem box3 {w w1 : World} {x y z : Value} {t : TypeId} (hb : Below (w.heap.size + 1) (w.alloc (.cells #[x, y, z] t)) w1) :
    w1.cell? ⟨w.heap.size, 0, none⟩ = some x ∧ w1.cell? ⟨w.heap.size, 1, none⟩ = some y ∧ w1.cell? ⟨w.heap.size, 2, none⟩ = some z :=
  ⟨(hb.cell (p := ⟨w.heap.size, 0, none⟩) (by show w.heap.size < w.heap.size + 1; omega)).trans (World.cell?_alloc_at _ _ _ _ rfl),
   (hb.cell (p := ⟨w.heap.size, 1, none⟩) (by show w.heap.size < w.heap.size + 1; omega)).trans (World.cell?_alloc_at _ _ _ _ rfl),
   (hb.cell (p := ⟨w.heap.size, 2, none⟩) (by show w.heap.size < w.heap.size + 1; omega)).trans (World.cell?_alloc_at _ _ _ _ rfl)⟩

set_option maxRecDepth 100000 in
set_option maxHeartbeats 3200000 in
theorem isUnsp4_yes (a4 a6 : Addr) (w : World) (h : Glob a4 a6 w) :
    Calls Tryd.prog 12 #[.agg #[.int .u64 0, .int .u64 281470681743360, .pointer (some a4)]] w fun e w' => e = .returned (.bool true) ∧ Below w.heap.size w w' := by
  have hB0 : Below w.heap.size w (w.alloc (.cells #[.int .u64 0, .int .u64 281470681743360, .pointer (some a4)] 41)) := (Below.refl _ w).alloc (Nat.le_refl _) _
  have hG := (h.below hB0 (Nat.le_refl _)).drew
  have hq := run_addr_same 0 281470681743360 a4
  clear h
  go_enter Tryd.func12, Tryd.ntmps12
  go_wp2
  go_region_with ((go_at_call 17; refine (unspec4_any a4 a6 _ ?_).mono ?_; exact hG; rintro e w1 ⟨rfl, hb⟩; have hb' : Below (w.heap.size + 1) (w.alloc (.cells #[.int .u64 0, .int .u64 281470681743360, .pointer (some a4)] 41)) w1 := (by simpa using (((Below.refl _ _).drew).trans hb)); obtain ⟨k0, k1, k2⟩ := box3 hb'; have hG1 := hG.below hb (Nat.le_refl _)))
  all_goals
    go_wp2
    go_ret
    exact ⟨rfl, hB0.trans (hb'.mono (by omega))⟩

set_option maxRecDepth 100000 in
set_option maxHeartbeats 3200000 in
theorem isUnsp4_no (lo : Int) (a4 a6 : Addr) (w : World) (h : Glob a4 a6 w) (hl : 281470681743360 < lo) :
    Calls Tryd.prog 12 #[.agg #[.int .u64 0, .int .u64 lo, .pointer (some a4)]] w fun e w' => e = .returned (.bool false) ∧ Below w.heap.size w w' := by
  have hB0 : Below w.heap.size w (w.alloc (.cells #[.int .u64 0, .int .u64 lo, .pointer (some a4)] 41)) := (Below.refl _ w).alloc (Nat.le_refl _) _
  have hG := (h.below hB0 (Nat.le_refl _)).drew
  have hq1 := run_addr_ints 0 lo 0 281470681743360 (some a4) (some a4)
  have hq2 := run_addr_ints 0 lo 0 0 (some a4) (some a6)
  have q1 := fun w => hq1 w (by omega)
  have q2 := fun w => hq2 w (by omega)
  clear hq1 hq2 hl
  clear h
  go_enter Tryd.func12, Tryd.ntmps12
  go_wp2
  go_region_with (first | (go_at_call 17; refine (unspec4_any a4 a6 _ ?_).mono ?_; exact hG; rintro e w1 ⟨rfl, hb⟩; have hb' : Below (w.heap.size + 1) (w.alloc (.cells #[.int .u64 0, .int .u64 lo, .pointer (some a4)] 41)) w1 := (by simpa using (((Below.refl _ _).drew).trans hb)); obtain ⟨k0, k1, k2⟩ := box3 hb'; have hG1 := hG.below hb (Nat.le_refl _)) | (go_at_call 18; refine (unspec6_any a4 a6 _ ?_).mono ?_; exact hG1; rintro e w2 ⟨rfl, hb2⟩; have hb2' : Below (w.heap.size + 1) (w.alloc (.cells #[.int .u64 0, .int .u64 lo, .pointer (some a4)] 41)) w2 := hb'.trans (hb2.mono (by have := hb'.size; simp at this; omega)); obtain ⟨m0, m1, m2⟩ := box3 hb2'))
  all_goals
    go_wp2
    go_ret
    exact ⟨rfl, hB0.trans (hb2'.mono (by omega))⟩

end Go.Proofs.Qxb6003815aDoor
