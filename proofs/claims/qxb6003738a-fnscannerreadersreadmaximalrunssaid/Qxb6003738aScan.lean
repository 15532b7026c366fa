/-
  'zzBytes_..', 'zzCloneBytes', 'zzInClass', 'zzApply': what the walk of 'FnScannerReadersReadMaximalRuns' calls.
-/
import Derived.Test.Qxb6003738aReaders
import Derived.Deep.Draws
import Derived.OwnWalk
namespace Go.Proofs.Qxb6003738a
open Go.ChangeShapes Go.WideShapes Go.ChangeAt Go.RowKit
set_option linter.unusedVariables false

/-- A slice of integers: nil; or a row of 'cap' cells, the numbers 'zs'. -/
def IsRow (k : IntKind) (w : World) (a : Option Addr) (len cap : Nat) (zs : List Int) : Prop :=
  (a = none ∧ len = 0 ∧ cap = 0 ∧ zs = []) ∨
  ∃ x, a = some x ∧ len ≤ cap ∧ cap ≤ maxLen ∧ zs.length = cap ∧ (∀ i, i < zs.length → w.cell? (x.add i) = some (.int k (zs.getD i 0))) ∧ ∀ n ∈ zs, (Lit.int k n).wf = true

theorem IsRow.at {w : World} {a : Option Addr} {len cap : Nat} {zs : List Int} (h : IsRow .u8 w a len cap zs) (hl : 0 < len) :
    ∃ b off, a = some ⟨b, off, none⟩ ∧ len ≤ zs.length ∧ (∀ k, k < zs.length → w.cell? ⟨b, off + k, none⟩ = some (.int .u8 (zs.getD k 0))) ∧ ∀ k, 0 ≤ zs.getD k 0 ∧ zs.getD k 0 ≤ 255 := by
  rcases h with ⟨_, h, _⟩ | ⟨x, hx, hlc, _, hzl, hc, hwf⟩
  · omega
  · obtain ⟨b, off, rfl, hc'⟩ := ints_at hc (by omega)
    refine ⟨b, off, hx, by omega, hc', fun k => ?_⟩
    by_cases hk : k < zs.length
    · have := hwf (zs.getD k 0) (by simp [List.getD, hk])
      exact bounds_u8 this
    · simp [List.getD, List.getElem?_eq_none (by omega : zs.length ≤ k)]

theorem IsRow.below {k : IntKind} {w w' : World} {a : Option Addr} {len cap : Nat} {zs : List Int} (h : IsRow k w a len cap zs) (hb : Below w.heap.size w w') : IsRow k w' a len cap zs := by
  rcases h with h | ⟨x, hx, h1, h2, h3, h4, h5⟩
  · exact Or.inl h
  · exact Or.inr ⟨x, hx, h1, h2, h3, fun i hi => (hb.cell (World.block_lt_of_cell? w _ (h4 i hi))).trans (h4 i hi), h5⟩

theorem IsRow.len_le {k : IntKind} {w : World} {a : Option Addr} {len cap : Nat} {zs : List Int} (h : IsRow k w a len cap zs) : len ≤ maxLen := by
  rcases h with ⟨_, rfl, _, rfl⟩ | ⟨x, hx, h1, h2, h3, h4, h5⟩
  · exact Nat.zero_le _
  · omega

theorem zzs_any (s : ByteArray) (p : Int) (a : Option Addr) (l c : Nat) (hs : s.size ≤ maxLen) (hl : l ≤ maxLen) (w : World) :
    Calls Try.prog 7 #[.string s, .int .i64 p, .slice a l c] w fun e w' => (e = .returned (.bool true) ∨ e = .returned (.bool false)) ∧ w' = w := by
  unfold maxLen at hs hl
  go_enter Try.func7, Try.ntmps7
  go_wp2
  all_goals (go_ret; first | exact ⟨Or.inl rfl, rfl⟩ | exact ⟨Or.inr rfl, rfl⟩)

theorem Try.info5 : (Try.prog.info? 5).map (fun i => (i.zero, i.size, i.bytes)) = some (some (.int .u8 0), 1, 1) := by kernel_rfl

theorem IsRow.own {w : World} {b t n : Nat} {zs : List Int} (hn : zs.length = n) (hm : n ≤ maxLen) (h : w.rowIs b t n (fun j => .int .u8 (zs.getD j 0))) (hwf : ∀ z ∈ zs, (Lit.int .u8 z).wf = true) :
    IsRow .u8 w (some ⟨b, 0, none⟩) n n zs := by
  refine Or.inr ⟨_, rfl, Nat.le_refl _, hm, hn, fun i hi => ?_, hwf⟩
  rw [add_plain, Nat.zero_add]
  exact h.cell (by omega)

set_option maxHeartbeats 800000 in
theorem clone_any (a : Option Addr) (len cap : Nat) (zs : List Int) (w : World) (hl : len ≤ 1048576) (r : IsRow .u8 w a len cap zs) :
    Calls Try.prog 8 #[.slice a len cap] w fun e w' => ∃ a', e = .returned (.slice a' len len) ∧ IsRow .u8 w' a' len len (zs.take len) ∧ Below w.heap.size w w' := by
  have q22 : ∀ (w : World) (a : Option Addr) (n c n' c' : Nat), (binOp .eql 22 (.slice a n c) (.slice none n' c')).run Try.prog w = .ok (.bool a.isNone) w := fun w a n c n' c' => Lib.run_eql_slice_nil w _ _ a n c n' c' Try.underlying22
  have hmk := run_make_row' (P := Try.prog) 22 5 (.int .u8 0) 1 Try.underlying22 Try.info5 rfl .i64 .i64 len (by omega) (by omega)
  have r0 := r
  rcases r with ⟨rfl, rfl, rfl, rfl⟩ | ⟨x, rfl, hlc, hcm, hzl, hc, hwf⟩
  · go_enter Try.func8, Try.ntmps8
    go_wp2
    go_ret
    exact ⟨none, rfl, Or.inl ⟨rfl, rfl, rfl, rfl⟩, Below.refl _ _⟩
  · go_enter Try.func8, Try.ntmps8
    go_wp2
    go_loopw [4] (fun i wr => ∃ k : Nat, k ≤ len ∧ i = .int .i64 k ∧ wr.rowIs w.heap.size 5 len (fun j => if j < k then .int .u8 (zs.getD j 0) else .int .u8 0) ∧ Below w.heap.size w wr)
      (fun i _ => len - (intOf i).toNat)
    case atStart => exact ⟨0, Nat.zero_le _, rfl, (World.rowIs_made w _ len 5).congr (fun i _ => by simp), (Below.refl _ _).alloc (Nat.le_refl _) _⟩
    case round =>
      obtain ⟨k, hk, rfl, hrow, hnx⟩ := hrel
      by_cases hlt : k < len
      · obtain ⟨b, off, hx, hlz, hcs, hbd⟩ := r0.at (by omega)
        obtain rfl := Option.some.inj hx
        have hcx : wr.cell? ⟨b, off + k, none⟩ = some (.int .u8 (zs.getD k 0)) := (hnx.cell (World.block_lt_of_cell? w ⟨b, off + k, none⟩ (hcs k (by omega)))).trans (hcs k (by omega))
        obtain ⟨z, hzz⟩ : ∃ z, z = zs.getD k 0 := ⟨_, rfl⟩
        rw [← hzz] at hcx
        have HZ : Hid (z = zs.getD k 0) := hzz
        have hd := hrow.cell hlt
        simp only [Nat.lt_irrefl, if_false] at hd
        have hfz := hrow.frozen k
        have R := hrow.set k (.int .u8 z)
        have B := hnx.setCell (p := ⟨w.heap.size, k, none⟩) (Nat.le_refl _) (.int .u8 z)
        clear hzz hcs hbd r0 hc hwf
        go_wp2
        go_roundw
        case rel =>
          refine ⟨k + 1, by omega, by go_num, R.congr (fun j hj => ?_), B⟩
          by_cases e : j = k
          · subst e; simp [HZ.out]
          · rw [if_neg e]
            by_cases e2 : j < k
            · rw [if_pos e2, if_pos (by omega)]
            · rw [if_neg e2, if_neg (by omega)]
        case measure => simp [intOf]; omega
      · have hke : k = len := by omega
        subst hke
        go_wp2
        go_ret
        refine ⟨_, rfl, ?_, hnx⟩
        refine IsRow.own (t := 5) (by simp; omega) (by unfold maxLen; omega) (hrow.congr (fun j hj => ?_)) (fun z hz => hwf z (List.mem_of_mem_take hz))
        rw [if_pos hj]
        simp [List.getD, hj]

/-- The bytes that reader number o reads. -/
def clsOf (o : Int) : Int → Bool := if o = 0 then spaC else if o = 1 then letC else if o = 2 then namC else digC
theorem clsOf0 : clsOf 0 = spaC := rfl
theorem clsOf1 : clsOf 1 = letC := rfl
theorem clsOf2 : clsOf 2 = namC := rfl
theorem clsOf3 : clsOf 3 = digC := rfl

theorem ret_bool {a b : Bool} (h : a = b) : Ending.returned (.bool a) = .returned (.bool b) := by rw [h]

set_option maxHeartbeats 800000 in
theorem incl0 (c : Int) (w : World) : Calls Try.prog 10 #[.int .u8 0, .int .u8 c] w fun e w' => e = .returned (.bool (clsOf 0 c)) ∧ w' = w := by
  rw [clsOf0]
  go_enter Try.func10, Try.ntmps10
  go_wp2
  go_ret
  exact ⟨ret_bool (by simp [spaC]; rfl), rfl⟩

set_option maxHeartbeats 800000 in
theorem incl1 (c : Int) (w : World) : Calls Try.prog 10 #[.int .u8 1, .int .u8 c] w fun e w' => e = .returned (.bool (clsOf 1 c)) ∧ w' = w := by
  rw [clsOf1]
  unfold letC
  by_cases h1 : 65 ≤ c <;> by_cases h2 : c ≤ 90 <;> simp only [h1, h2, and_self, and_true, and_false, decide_true, decide_false]
  all_goals
    go_enter Try.func10, Try.ntmps10
    go_wp2
    go_ret
    exact ⟨rfl, rfl⟩

set_option maxHeartbeats 800000 in
theorem incl3 (c : Int) (w : World) : Calls Try.prog 10 #[.int .u8 3, .int .u8 c] w fun e w' => e = .returned (.bool (clsOf 3 c)) ∧ w' = w := by
  rw [clsOf3]
  unfold digC
  by_cases h1 : 48 ≤ c <;> by_cases h2 : c ≤ 57 <;> simp only [h1, h2, and_self, and_true, and_false, decide_true, decide_false]
  all_goals
    go_enter Try.func10, Try.ntmps10
    go_wp2
    go_ret
    exact ⟨rfl, rfl⟩

set_option maxHeartbeats 1600000 in
theorem incl2 (c : Int) (w : World) : Calls Try.prog 10 #[.int .u8 2, .int .u8 c] w fun e w' => e = .returned (.bool (clsOf 2 c)) ∧ w' = w := by
  rw [clsOf2]
  by_cases h1 : 65 ≤ c
  · by_cases h2 : c ≤ 90
    · have hn : namC c = true := by simp [namC]; omega
      rw [hn]
      go_enter Try.func10, Try.ntmps10
      go_wp2
      go_ret
      exact ⟨rfl, rfl⟩
    · have hn : namC c = false := by simp [namC]; omega
      have h2' : decide (c ≤ 90) = false := decide_eq_false h2
      have h4 : decide (c ≤ 57) = false := decide_eq_false (by omega)
      have h5 : (c == 36) = false := by simp; omega
      rw [hn]
      go_enter Try.func10, Try.ntmps10
      go_wp2
      go_ret
      exact ⟨rfl, rfl⟩
  · have h1' : decide (65 ≤ c) = false := decide_eq_false h1
    by_cases h3 : 48 ≤ c
    · by_cases h4 : c ≤ 57
      · have hn : namC c = true := by simp [namC]; omega
        rw [hn]
        go_enter Try.func10, Try.ntmps10
        go_wp2
        go_ret
        exact ⟨rfl, rfl⟩
      · have hn : namC c = false := by simp [namC]; omega
        have h4' : decide (c ≤ 57) = false := decide_eq_false h4
        have h5 : (c == 36) = false := by simp; omega
        rw [hn]
        go_enter Try.func10, Try.ntmps10
        go_wp2
        go_ret
        exact ⟨rfl, rfl⟩
    · have h3' : decide (48 ≤ c) = false := decide_eq_false h3
      by_cases h5 : c = 36
      · have hn : namC c = true := by simp [namC]; omega
        have h5' : (c == 36) = true := by simp [h5]
        rw [hn]
        clear h5
        go_enter Try.func10, Try.ntmps10
        go_wp2
        go_ret
        exact ⟨rfl, rfl⟩
      · have hn : namC c = false := by simp [namC]; omega
        have h5' : (c == 36) = false := by simp [h5]
        rw [hn]
        clear h5
        go_enter Try.func10, Try.ntmps10
        go_wp2
        go_ret
        exact ⟨rfl, rfl⟩

theorem incl_any (o c : Int) (h0 : 0 ≤ o) (h1 : o < 4) (w : World) : Calls Try.prog 10 #[.int .u8 o, .int .u8 c] w fun e w' => e = .returned (.bool (clsOf o c)) ∧ w' = w := by
  rcases (show o = 0 ∨ o = 1 ∨ o = 2 ∨ o = 3 by omega) with rfl | rfl | rfl | rfl
  · exact incl0 c w
  · exact incl1 c w
  · exact incl2 c w
  · exact incl3 c w

set_option maxHeartbeats 800000 in
theorem apply_any (b : Nat) (s : ByteArray) (p : Nat) (o : Int) (w : World) (hs : s.size ≤ 1048576) (h : Sc b s p w) (hp : p ≤ s.size) (h0 : 0 ≤ o) (h1 : o < 4) :
    Calls Try.prog 9 #[.pointer (some ⟨b, 0, none⟩), .int .u8 o] w fun e w' => ∃ (q : Nat) (sv : ByteArray) (nv : Int), e = .returned (.tuple #[.string sv, .int .i64 nv]) ∧ IsRun (clsOf o) s p q ∧ Sc b s q w' ∧ Only b w w' ∧
      (o = 1 ∨ o = 2 → sv = s.extract p q) ∧ (o = 3 → nv = (q : Int) - (p : Int)) := by
  rcases (show o = 0 ∨ o = 1 ∨ o = 2 ∨ o = 3 by omega) with rfl | rfl | rfl | rfl
  · go_enter Try.func9, Try.ntmps9
    go_wp2_with fail
    refine (skip_any b s p _ hs h hp).mono ?_
    rintro e w' ⟨q, rfl, hr, hsc, hon⟩
    go_wp2
    go_ret2
    exact ⟨q, _, _, rfl, hr, hsc, hon, fun h => by omega, fun h => by omega⟩
  · go_enter Try.func9, Try.ntmps9
    go_wp2_with fail
    refine (word_any b s p _ hs h hp).mono ?_
    rintro e w' ⟨q, rfl, hr, hsc, hon⟩
    go_wp2
    go_ret2
    exact ⟨q, _, _, rfl, hr, hsc, hon, fun h => rfl, fun h => by omega⟩
  · go_enter Try.func9, Try.ntmps9
    go_wp2_with fail
    refine (nameR_any b s p _ hs h hp).mono ?_
    rintro e w' ⟨q, rfl, hr, hsc, hon⟩
    go_wp2
    go_ret2
    exact ⟨q, _, _, rfl, hr, hsc, hon, fun h => rfl, fun h => by omega⟩
  · go_enter Try.func9, Try.ntmps9
    go_wp2_with fail
    refine (digits_any b s p _ hs h hp).mono ?_
    rintro e w' ⟨q, rfl, hr, hsc, hon⟩
    go_wp2
    go_ret2
    exact ⟨q, _, _, rfl, hr, hsc, hon, fun h => by omega, fun h => rfl⟩

end Go.Proofs.Qxb6003738a
