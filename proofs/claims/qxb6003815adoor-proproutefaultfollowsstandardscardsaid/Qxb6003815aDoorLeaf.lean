/-
  Leaves of the road of 'PropRouteFaultFollowsStandards': the tests on an ESI, the kind of a community.
-/
import Derived.Test.Qxb6003815aDoorRows
import Derived.WalkKit
import Derived.ProofKit
import Derived.OpenShut
import Derived.ShutString
import Derived.ChangeOld
import Derived.Below
import Derived.WalkSpells
import Derived.OneCell
import Derived.RegionTactic
import Derived.BigRegion
import Derived.Deep.OwnRows
import Derived.Deep.LoopGhost
import Derived.Deep.QuietTactic
import Derived.BigQuiet
import Derived.ChangeKeysEq
namespace Go.Proofs.Qxb6003815aDoor
open Go.ChangeShapes Go.WideShapes Go.ChangeAt Go.RowKit
set_option linter.unusedVariables false

/-- The kind of a community by its first two octets. -/
def kindOf (c0 c1 : Int) : Int :=
  if c0 ≤ 2 ∧ c1 = 2 then 1 else if c0 = 3 ∧ c1 = 12 then 2 else if c0 = 3 ∧ c1 = 13 then 3 else if c0 = 6 ∧ c1 < 5 then 4 + c1 else 0

/-- What the table of kinds holds. -/
def Kinds (w : World) : Prop := ∀ i, i < 5 → w.cell? ⟨2, i, none⟩ = some (.int .u8 (4 + (i : Int)))

theorem known_any (e0 e1 e2 e3 e4 e5 e6 e7 e8 e9 : Int) (w : World) :
    Calls Tryd.prog 11 #[.agg #[.int .u8 e0, .int .u8 e1, .int .u8 e2, .int .u8 e3, .int .u8 e4, .int .u8 e5, .int .u8 e6, .int .u8 e7, .int .u8 e8, .int .u8 e9]] w fun e w' => e = .returned (.bool (decide (e0 ≤ 5))) ∧ Below w.heap.size w w' := by
  go_enter Tryd.func11, Tryd.ntmps11
  go_wp2
  go_ret
  exact ⟨rfl, (Below.refl _ _).alloc (Nat.le_refl _) _⟩

/-- Are all of them zero? -/
def zeroB (l : List Int) : Bool := l.all (· == 0)

theorem zeroB_true {l : List Int} (h : ∀ k, k < l.length → l.getD k 0 = 0) : zeroB l = true := by
  unfold zeroB
  rw [List.all_eq_true]
  intro x hx
  obtain ⟨k, hk, rfl⟩ := List.mem_iff_getElem.1 hx
  have := h k hk
  simpa [List.getD, hk] using this
theorem zeroB_false {l : List Int} {k : Nat} (hk : k < l.length) (h : l.getD k 0 ≠ 0) : zeroB l = false := by
  unfold zeroB
  rw [List.all_eq_false]
  exact ⟨l[k], List.getElem_mem hk, by simpa [List.getD, hk] using h⟩
theorem zeroB_get {l : List Int} (h : zeroB l = true) (k : Nat) : l.getD k 0 = 0 := by
  unfold zeroB at h
  rw [List.all_eq_true] at h
  by_cases hk : k < l.length
  · have := h l[k] (List.getElem_mem hk)
    simpa [List.getD, hk] using this
  · simp [List.getD, List.getElem?_eq_none (by omega : l.length ≤ k)]

theorem eqItems_u8 (w : World) (d : Nat) (xs ys : Array Value) (a b : Nat → Int) : ∀ is : List Nat, (∀ i ∈ is, xs[i]? = some (.int .u8 (a i)) ∧ ys[i]? = some (.int .u8 (b i))) →
    (Op.eqItems (d + 1) 5 1 xs ys is).run Tryd.prog w = .ok (is.all fun i => a i == b i) w
  | [], _ => by simp [Op.eqItems]
  | i :: is, h => by
    obtain ⟨h1, h2⟩ := h i (by simp)
    have ih := eqItems_u8 w d xs ys a b is (fun j hj => h j (by simp [hj]))
    have p1 : ∀ (zs : Array Value) (z : Int), zs[i]? = some (.int .u8 z) → (part 5 zs (i * 1)).run Tryd.prog w = .ok (.int .u8 z) w := by
      intro zs z hz
      exact run_part_plain w (by kernel_rfl) (by rw [Nat.mul_one]; exact hz)
    simp only [Op.eqItems, Sem.run_bind, p1 _ _ h1, p1 _ _ h2, Result.andThen_ok, run_equalIn_int w d 5 .u8 .u8 (a i) (b i) Tryd.underlying5]
    cases e : (a i == b i)
    · simp [e]
    · simp [e, ih]

theorem Tryd.cells5 : Tryd.prog.cellsOf 5 = 1 := by kernel_rfl
theorem Tryd.info5 : (Tryd.prog.info? 5).map (fun i => (i.zero, i.size, i.bytes)) = some (some (.int .u8 0), 1, 1) := by kernel_rfl

/-- 'e == ESI of zeros'. -/
theorem run_esi_zero (e0 e1 e2 e3 e4 e5 e6 e7 e8 e9 : Int) (w : World) :
    (Op.equalIn 10000 31 (.agg #[.int .u8 e0, .int .u8 e1, .int .u8 e2, .int .u8 e3, .int .u8 e4, .int .u8 e5, .int .u8 e6, .int .u8 e7, .int .u8 e8, .int .u8 e9]) (.agg #[.int .u8 0, .int .u8 0, .int .u8 0, .int .u8 0, .int .u8 0, .int .u8 0, .int .u8 0, .int .u8 0, .int .u8 0, .int .u8 0])).run Tryd.prog w = .ok (zeroB [e0, e1, e2, e3, e4, e5, e6, e7, e8, e9]) w := by
  obtain ⟨i, hi, _⟩ := Option.map_eq_some_iff.1 Tryd.info5
  rw [run_equalIn_array w 9999 _ _ Tryd.underlying31 hi, Tryd.cells5]
  rw [eqItems_u8 w 9998 _ _ (fun i => [e0, e1, e2, e3, e4, e5, e6, e7, e8, e9].getD i 0) (fun _ => 0) (List.range 10) ?_]
  · congr 1
  · intro i hi
    simp only [List.mem_range] at hi
    rcases (show i = 0 ∨ i = 1 ∨ i = 2 ∨ i = 3 ∨ i = 4 ∨ i = 5 ∨ i = 6 ∨ i = 7 ∨ i = 8 ∨ i = 9 by omega) with rfl | rfl | rfl | rfl | rfl | rfl | rfl | rfl | rfl | rfl <;> exact ⟨rfl, rfl⟩

set_option maxRecDepth 100000 in
set_option maxHeartbeats 800000 in
theorem isZero_any (e0 e1 e2 e3 e4 e5 e6 e7 e8 e9 : Int) (w : World) :
    Calls Tryd.prog 13 #[.agg #[.int .u8 e0, .int .u8 e1, .int .u8 e2, .int .u8 e3, .int .u8 e4, .int .u8 e5, .int .u8 e6, .int .u8 e7, .int .u8 e8, .int .u8 e9]] w fun e w' => e = .returned (.bool (zeroB [e0, e1, e2, e3, e4, e5, e6, e7, e8, e9])) ∧ Below w.heap.size w w' := by
  have hq := run_esi_zero e0 e1 e2 e3 e4 e5 e6 e7 e8 e9
  obtain ⟨B, hB⟩ : ∃ B, zeroB [e0, e1, e2, e3, e4, e5, e6, e7, e8, e9] = B := ⟨_, rfl⟩
  rw [hB] at hq ⊢
  clear hB
  go_enter Tryd.func13, Tryd.ntmps13
  go_wp2
  go_ret
  exact ⟨rfl, (Below.refl _ _).alloc (Nat.le_refl _) _⟩

set_option maxRecDepth 100000 in
set_option maxHeartbeats 800000 in
theorem zeroESI_any (e0 e1 e2 e3 e4 e5 e6 e7 e8 e9 : Int) (w : World) :
    Calls Tryd.prog 4 #[.agg #[.int .u8 e0, .int .u8 e1, .int .u8 e2, .int .u8 e3, .int .u8 e4, .int .u8 e5, .int .u8 e6, .int .u8 e7, .int .u8 e8, .int .u8 e9]] w fun e w' => e = .returned (.bool (zeroB [e0, e1, e2, e3, e4, e5, e6, e7, e8, e9])) ∧ Below w.heap.size w w' := by
  obtain ⟨l, hl⟩ : ∃ l, l = [e0, e1, e2, e3, e4, e5, e6, e7, e8, e9] := ⟨_, rfl⟩
  have hlen : l.length = 10 := by rw [hl]; rfl
  have hc : ∀ k, k < 10 → (w.alloc (.cells #[.int .u8 e0, .int .u8 e1, .int .u8 e2, .int .u8 e3, .int .u8 e4, .int .u8 e5, .int .u8 e6, .int .u8 e7, .int .u8 e8, .int .u8 e9] 23)).cell? ⟨w.heap.size, k, none⟩ = some (.int .u8 (l.getD k 0)) := by
    intro k hk
    rw [World.cell?_alloc_at _ _ _ _ rfl, hl]
    rcases (show k = 0 ∨ k = 1 ∨ k = 2 ∨ k = 3 ∨ k = 4 ∨ k = 5 ∨ k = 6 ∨ k = 7 ∨ k = 8 ∨ k = 9 by omega) with rfl | rfl | rfl | rfl | rfl | rfl | rfl | rfl | rfl | rfl <;> rfl
  rw [← hl]
  have hB : Below w.heap.size w (w.alloc (.cells #[.int .u8 e0, .int .u8 e1, .int .u8 e2, .int .u8 e3, .int .u8 e4, .int .u8 e5, .int .u8 e6, .int .u8 e7, .int .u8 e8, .int .u8 e9] 23)) := (Below.refl _ _).alloc (Nat.le_refl _) _
  have HL : Hid (l.length = 10) := hlen
  clear hl hlen
  go_enter Tryd.func4, Tryd.ntmps4
  go_wp2
  go_loop [3] (fun i => ∃ k : Nat, k ≤ 10 ∧ i = .int .i64 k ∧ ∀ j, j < k → l.getD j 0 = 0) (fun i => 10 - (intOf i).toNat)
  case atStart => exact ⟨0, Nat.zero_le _, rfl, fun j hj => absurd hj (Nat.not_lt_zero _)⟩
  case round =>
    obtain ⟨k, hk, rfl, hz0⟩ := hrel
    have HZ : Hid (∀ j, j < k → l.getD j 0 = 0) := hz0
    clear hz0
    by_cases hlt : k < 10
    · have hck := hc k hlt
      obtain ⟨x, hx⟩ : ∃ x, x = l.getD k 0 := ⟨_, rfl⟩
      rw [← hx] at hck
      have HX : Hid (x = l.getD k 0) := hx
      clear hx hc
      by_cases h0 : x = 0
      · have h0' : (x != 0) = false := by simp [h0]
        have HX0 : Hid (x = 0) := h0
        clear h0
        go_wp2
        go_round
        case rel =>
          refine ⟨k + 1, by omega, by go_num, fun j hj => ?_⟩
          by_cases e : j = k
          · subst e; rw [← HX.out]; exact HX0.out
          · exact HZ.out j (by omega)
        case measure => simp [intOf]; omega
      · have h0' : (x != 0) = true := by simp [h0]
        have hf : zeroB l = false := zeroB_false (k := k) (by rw [HL.out]; exact hlt) (by rw [← HX.out]; exact h0)
        have HF : Hid (zeroB l = false) := hf
        clear h0 hf
        go_wp2
        go_ret
        exact ⟨by rw [HF.out]; rfl, hB⟩
    · have hke : k = 10 := by omega
      subst hke
      have HF : Hid (zeroB l = true) := zeroB_true (by rw [HL.out]; exact HZ.out)
      clear hc
      go_wp2
      go_ret
      exact ⟨by rw [HF.out]; rfl, hB⟩

set_option maxHeartbeats 1600000 in
theorem kind_any (c0 c1 c2 c3 c4 c5 c6 c7 : Int) (w : World) (hk : Kinds w) (hb : 2 < w.heap.size) (h0 : 0 ≤ c1) (h1 : c1 ≤ 255) :
    Calls Tryd.prog 22 #[.agg #[.int .u8 c0, .int .u8 c1, .int .u8 c2, .int .u8 c3, .int .u8 c4, .int .u8 c5, .int .u8 c6, .int .u8 c7]] w fun e w' => e = .returned (.int .u8 (kindOf c0 c1)) ∧ Below w.heap.size w w' := by
  have hk2 : ∀ i, i < 5 → (w.alloc (.cells #[.int .u8 c0, .int .u8 c1, .int .u8 c2, .int .u8 c3, .int .u8 c4, .int .u8 c5, .int .u8 c6, .int .u8 c7] 49)).cell? ⟨2, i, none⟩ = some (.int .u8 (4 + (i : Int))) := fun i hi => by
    rw [World.cell?_alloc_past _ _ _ hb]; exact hk i hi
  clear hk
  by_cases a1 : c0 ≤ 2
  · by_cases a2 : c1 = 2
    · have e : kindOf c0 c1 = 1 := if_pos ⟨a1, a2⟩
      rw [e]
      subst a2
      clear hk2 e
      go_enter Tryd.func22, Tryd.ntmps22
      go_wp2
      go_ret
      exact ⟨rfl, (Below.refl _ _).alloc (Nat.le_refl _) _⟩
    · have e : kindOf c0 c1 = 0 := by unfold kindOf; rw [if_neg (by omega), if_neg (by omega), if_neg (by omega), if_neg (by omega)]
      rw [e]
      have a2' : (c1 == 2) = false := by simp [a2]
      clear hk2 e a2
      go_enter Tryd.func22, Tryd.ntmps22
      go_wp2
      go_ret
      exact ⟨rfl, (Below.refl _ _).alloc (Nat.le_refl _) _⟩
  · have a1' : decide (c0 ≤ 2) = false := decide_eq_false a1
    by_cases b1 : c0 = 3
    · subst b1
      by_cases b2 : c1 = 12
      · subst b2
        clear hk2
        rw [show kindOf 3 12 = 2 from rfl]
        go_enter Tryd.func22, Tryd.ntmps22
        go_wp2
        go_ret
        exact ⟨rfl, (Below.refl _ _).alloc (Nat.le_refl _) _⟩
      · by_cases b3 : c1 = 13
        · subst b3
          clear hk2
          rw [show kindOf 3 13 = 3 from rfl]
          go_enter Tryd.func22, Tryd.ntmps22
          go_wp2
          go_ret
          exact ⟨rfl, (Below.refl _ _).alloc (Nat.le_refl _) _⟩
        · have e : kindOf 3 c1 = 0 := by unfold kindOf; rw [if_neg (by omega), if_neg (by omega), if_neg (by omega), if_neg (by omega)]
          rw [e]
          have b2' : (c1 == 12) = false := by simp [b2]
          have b3' : (c1 == 13) = false := by simp [b3]
          clear hk2 e b2 b3
          go_enter Tryd.func22, Tryd.ntmps22
          go_wp2
          go_ret
          exact ⟨rfl, (Below.refl _ _).alloc (Nat.le_refl _) _⟩
    · have b1' : (c0 == 3) = false := by simp [b1]
      by_cases d1 : c0 = 6
      · subst d1
        by_cases d2 : c1 < 5
        · obtain ⟨k, rfl⟩ : ∃ k : Nat, c1 = k := ⟨c1.toNat, by omega⟩
          have e : kindOf 6 k = 4 + (k : Int) := by unfold kindOf; rw [if_neg (by omega), if_neg (by omega), if_neg (by omega), if_pos (by omega)]
          rw [e]
          have hkk := hk2 k (by omega)
          clear hk2 e b1
          go_enter Tryd.func22, Tryd.ntmps22
          go_wp2
          go_ret
          exact ⟨rfl, (Below.refl _ _).alloc (Nat.le_refl _) _⟩
        · have e : kindOf 6 c1 = 0 := by unfold kindOf; rw [if_neg (by omega), if_neg (by omega), if_neg (by omega), if_neg (by omega)]
          rw [e]
          clear hk2 e b1
          go_enter Tryd.func22, Tryd.ntmps22
          go_wp2
          go_ret
          exact ⟨rfl, (Below.refl _ _).alloc (Nat.le_refl _) _⟩
      · have e : kindOf c0 c1 = 0 := by unfold kindOf; rw [if_neg (by omega), if_neg (by omega), if_neg (by omega), if_neg (by omega)]
        rw [e]
        have d1' : (c0 == 6) = false := by simp [d1]
        clear hk2 e b1 d1
        go_enter Tryd.func22, Tryd.ntmps22
        go_wp2
        go_ret
        exact ⟨rfl, (Below.refl _ _).alloc (Nat.le_refl _) _⟩

end Go.Proofs.Qxb6003815aDoor
