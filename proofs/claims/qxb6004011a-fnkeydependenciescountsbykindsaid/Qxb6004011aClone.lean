/-
  'cloneI32': a new row with the same numbers; nothing old has turned.
-/
import Derived.Test.Qxb6004011aLeaf
import Derived.Deep.OwnRows
import Derived.Outline
namespace Go.Proofs.Qxb6004011a
open Go.ChangeShapes Go.WideShapes Go.ChangeAt Go.RowKit
set_option linter.unusedVariables false

theorem Try.info21 : (Try.prog.info? 21).map (fun i => (i.zero, i.size, i.bytes)) = some (some (.int .i32 0), 1, 4) := by kernel_rfl

/-- A row of the call's own reads as a slice of integers. -/
theorem IsRow.own {w : World} {b t n : Nat} {zs : List Int} (hn : zs.length = n) (hm : n ≤ maxLen) (h : w.rowIs b t n (fun j => .int .i32 (zs.getD j 0))) (hwf : ∀ z ∈ zs, (Lit.int .i32 z).wf = true) :
    IsRow .i32 w (some ⟨b, 0, none⟩) n n zs := by
  refine Or.inr ⟨_, rfl, Nat.le_refl _, hm, hn, fun i hi => ?_, hwf⟩
  rw [add_plain, Nat.zero_add]
  exact h.cell (by omega)

set_option maxHeartbeats 800000 in
theorem clone_any (a : Option Addr) (len cap : Nat) (zs : List Int) (w : World) (hl : len ≤ 1048576) (r : IsRow .i32 w a len cap zs) :
    Calls Try.prog 9 #[.slice a len cap] w fun e w' => ∃ a', e = .returned (.slice a' len len) ∧ IsRow .i32 w' a' len len (zs.take len) ∧ Below w.heap.size w w' := by
  have q22 : ∀ (w : World) (a : Option Addr) (n c n' c' : Nat), (binOp .eql 22 (.slice a n c) (.slice none n' c')).run Try.prog w = .ok (.bool a.isNone) w := fun w a n c n' c' => Lib.run_eql_slice_nil w _ _ a n c n' c' Try.underlying22
  have hmk := run_make_row' (P := Try.prog) 22 21 (.int .i32 0) 4 Try.underlying22 Try.info21 rfl .i64 .i64 len (by omega) (by omega)
  have r0 := r
  rcases r with ⟨rfl, rfl, rfl, rfl⟩ | ⟨x, rfl, hlc, hcm, hzl, hc, hwf⟩
  · go_enter Try.func9, Try.ntmps9
    go_wp2
    go_ret
    exact ⟨none, rfl, Or.inl ⟨rfl, rfl, rfl, rfl⟩, Below.refl _ _⟩
  · go_enter Try.func9, Try.ntmps9
    go_wp2
    go_loopw [4] (fun i wr => ∃ k : Nat, k ≤ len ∧ i = .int .i64 k ∧ wr.rowIs w.heap.size 21 len (fun j => if j < k then .int .i32 (zs.getD j 0) else .int .i32 0) ∧ Below w.heap.size w wr)
      (fun i _ => len - (intOf i).toNat)
    case atStart => exact ⟨0, Nat.zero_le _, rfl, (World.rowIs_made w _ len 21).congr (fun i _ => by simp), (Below.refl _ _).alloc (Nat.le_refl _) _⟩
    case round =>
      obtain ⟨k, hk, rfl, hrow, hnx⟩ := hrel
      by_cases hlt : k < len
      · obtain ⟨b, off, hx, hlz, hcs, hbd⟩ := r0.at (by omega)
        obtain rfl := Option.some.inj hx
        have hcx : wr.cell? ⟨b, off + k, none⟩ = some (.int .i32 (zs.getD k 0)) := (hnx.cell (World.block_lt_of_cell? w ⟨b, off + k, none⟩ (hcs k (by omega)))).trans (hcs k (by omega))
        obtain ⟨z, hzz⟩ : ∃ z, z = zs.getD k 0 := ⟨_, rfl⟩
        rw [← hzz] at hcx
        have HZ : Hid (z = zs.getD k 0) := hzz
        have hd := hrow.cell hlt
        simp only [Nat.lt_irrefl, if_false] at hd
        have hfz := hrow.frozen k
        have R := hrow.set k (.int .i32 z)
        have B := hnx.setCell (p := ⟨w.heap.size, k, none⟩) (Nat.le_refl _) (.int .i32 z)
        clear hzz hcs hbd r0 hc hwf
        go_wp2
        go_roundw
        case rel =>
          refine ⟨k + 1, by omega, by go_num, R.congr (fun j hj => ?_), B⟩
          by_cases e : j = k
          · subst e; simp [HZ.out]
          · rw [if_neg e]
            by_cases e2 : j < k
            · rw [if_pos e2, if_pos (by omega)]
            · rw [if_neg e2, if_neg (by omega)]
        case measure => simp [intOf]; omega
      · have hke : k = len := by omega
        subst hke
        go_wp2
        go_ret
        refine ⟨_, rfl, ?_, hnx⟩
        refine IsRow.own (t := 21) (by simp; omega) (by unfold maxLen; omega) (hrow.congr (fun j hj => ?_)) (fun z hz => hwf z (List.mem_of_mem_take hz))
        rw [if_pos hj]
        simp [List.getD, hj]

end Go.Proofs.Qxb6004011a
