/-
  The closure 'depend' of 'keyDependencies': it appends one edge to the captured slice, or nothing.
-/
import Derived.Test.Qxb6004011aClone
import Derived.Test.Qxb6004011aEdges
import Derived.OneCell
import Derived.OwnWalk
namespace Go.Proofs.Qxb6004011a
open Go.ChangeShapes Go.WideShapes Go.ChangeAt Go.RowKit
set_option linter.unusedVariables false

theorem Try.info44 : (Try.prog.info? 44).map (fun i => (i.zero, i.size, i.bytes)) = some (some (.agg #[.int .i32 0, .int .i32 0, .int .u8 0]), 3, 12) := by kernel_rfl

/-- The cells of a list of edges. -/
def cellsE : List Edge → List Value
  | [] => []
  | e :: r => .int .i32 e.1 :: .int .i32 e.2.1 :: .int .u8 e.2.2 :: cellsE r

theorem cellsE_append (A B : List Edge) : cellsE (A ++ B) = cellsE A ++ cellsE B := by
  induction A with
  | nil => rfl
  | cons e r ih => simp [cellsE, ih]

/-- The captured variable (block Bv) holds a slice that owns the edges E. -/
def Inv (Bv base : Nat) (E : List Edge) (w : World) : Prop :=
  Bv < base ∧ base ≤ w.heap.size ∧ ∃ v, w.heap[Bv]? = some (.cells #[v] 41 (0, 0)) ∧ w.ownsRow base 44 3 v E.length (cellsE E)

/-- Every block but the captured variable's and the rows of edges is as it was. -/
def Keeps (Bv : Nat) (w w' : World) : Prop := ∀ k c t, w.heap[k]? = some (.cells c t (0, 0)) → k ≠ Bv → t ≠ 44 → w'.heap[k]? = some (.cells c t (0, 0))

/-- What one append does to the captured slice. -/
theorem dep_push {Bv base : Nat} {E : List Edge} {f t kd : Int} {v v' : Value} {w w1 : World} (hB : Bv < base) (hbs : base ≤ w.heap.size) (hv : w.heap[Bv]? = some (.cells #[v] 41 (0, 0)))
    (hown : w.ownsRow base 44 3 v E.length (cellsE E)) (O : Obj)
    (hown' : w1.ownsRow base 44 3 v' (E.length + 1) (cellsE E ++ [.int .i32 f, .int .i32 t, .int .u8 kd])) (hg : (w.alloc O).grownBy w1 v.ownBlock) :
    (∃ g cap, v' = .slice (some ⟨g, 0, none⟩) (E.length + 1) cap) ∧ w1.cell? ⟨Bv, 0, none⟩ = some v ∧ w1.frozen? ⟨Bv, 0, none⟩ = false ∧
    Inv Bv base (E ++ [(f, t, kd)]) (w1.setCell ⟨Bv, 0, none⟩ v') ∧ Below Bv w (w1.setCell ⟨Bv, 0, none⟩ v') ∧ Keeps Bv w (w1.setCell ⟨Bv, 0, none⟩ v') := by
  have hnb : ∀ k, v.ownBlock = some k → base ≤ k := fun k hk => (hown.lt k hk).1
  have hsz : w.heap.size + 1 ≤ w1.heap.size := by have := hg.size; simpa using this
  have hv1 : w1.heap[Bv]? = some (.cells #[v] 41 (0, 0)) := by
    rw [hg.block Bv (by simp; omega) (fun e => by have := hnb _ e.symm; omega)]
    exact (Below.heap_alloc _ _ _ (by omega)).trans hv
  have hb1 : Below Bv w (w1.setCell ⟨Bv, 0, none⟩ v') :=
    (((Below.refl Bv w).alloc (by omega) O).grown hg (by simp; omega) (fun k hk => by have := hnb k hk; omega)).setCell (Nat.le_refl _) _
  have hk1 : Keeps Bv w (w1.setCell ⟨Bv, 0, none⟩ v') := by
    intro k c ty hk hne ht
    have hlt := lt_of_block hk
    rw [Below.heap_setCell _ _ _ _ (by simpa using hne), hg.block k (by simp; omega) ?_]
    · exact (Below.heap_alloc _ _ _ hlt).trans hk
    · intro e
      rcases hown.2 with ⟨rfl, _⟩ | ⟨g, cap, cur, rfl, _, hh, _⟩
      · simp [Value.ownBlock] at e
      · simp [Value.ownBlock] at e
        subst e
        rw [hh] at hk
        simp at hk
        exact ht hk.2.symm
  have hne : v'.ownBlock ≠ some Bv := fun e => by have := (hown'.lt _ e).1; omega
  refine ⟨?_, cell_of_one hv1, free_of_one hv1, ⟨hB, by have := hb1.size; omega, v', one_setCell hv1, ?_⟩, hb1, hk1⟩
  · rcases hown'.2 with ⟨_, h⟩ | ⟨g, cap, cur, h, _⟩
    · omega
    · exact ⟨g, cap, h⟩
  · have := ownsRow_setCell_other hown' (a := ⟨Bv, 0, none⟩) hne v'
    rw [cellsE_append, List.length_append]
    exact this

set_option maxHeartbeats 800000 in
theorem dep_any (Bv base : Nat) (E : List Edge) (f t kd : Int) (w : World) (h : Inv Bv base E w) (hlen : E.length ≤ 1000000) :
    Calls Try.prog 16 #[.int .i32 f, .int .i32 t, .int .u8 kd, .pointer (some ⟨Bv, 0, none⟩)] w fun e w' =>
      e = .returned (.tuple #[]) ∧ Inv Bv base (E ++ dep f t kd) w' ∧ Below Bv w w' ∧ Keeps Bv w w' := by
  obtain ⟨hB, hbs, v, hv, hown⟩ := h
  have cV := cell_of_one hv
  have fV := free_of_one hv
  by_cases hf : 0 ≤ f
  case neg =>
    have hfd : decide (0 ≤ f) = false := decide_eq_false hf
    go_enter Try.func16, Try.ntmps16
    go_wp2
    go_end0
    rw [dep_no (by omega), List.append_nil]
    exact ⟨rfl, ⟨hB, hbs, v, hv, hown⟩, Below.refl _ _, fun _ _ _ h _ _ => h⟩
  by_cases ht : 0 ≤ t
  case neg =>
    have hfd : decide (0 ≤ t) = false := decide_eq_false ht
    go_enter Try.func16, Try.ntmps16
    go_wp2
    go_end0
    rw [dep_no (by omega), List.append_nil]
    exact ⟨rfl, ⟨hB, hbs, v, hv, hown⟩, Below.refl _ _, fun _ _ _ h _ _ => h⟩
  obtain ⟨i0, hi, hz0, hz1, hz2⟩ := info_parts Try.info44
  go_enter Try.func16, Try.ntmps16
  go_wp2_with (at_builtin; refine wpList_append_own _ rfl _ _ 41 rfl base 44 i0 (.agg #[.int .i32 0, .int .i32 0, .int .u8 0]) 3 12 Try.underlying41 hi hz0 hz1 hz2 rfl (by decide) _ _ _ rfl (hown.alloc _) ⟨w.heap.size, 0, none⟩ 1 1 [.int .i32 f, .int .i32 t, .int .u8 kd] rfl rfl ?c1 ?c2 ?c3 ?c4 ?c5 ?_)
  case c1 =>
    intro j u hj
    match j, hj with
    | 0, hj => simp at hj; subst hj; simp [Addr.add]
    | 1, hj => simp at hj; subst hj; simp [Addr.add]
    | 2, hj => simp at hj; subst hj; simp [Addr.add]
  case c2 => intro u hu; simp at hu; rcases hu with rfl | rfl | rfl <;> rfl
  case c3 => unfold maxLen; omega
  case c4 => omega
  case c5 => simp; omega
  intro v' w1 hown' hgrow' _
  obtain ⟨⟨g', cap', rfl⟩, cV1, fV1, hinv', hbel, hkeep⟩ := dep_push hB hbs hv hown _ hown' hgrow'
  clear hown' hgrow' hown hv cV fV
  go_wp2
  go_end0
  rw [dep_yes hf ht]
  exact ⟨rfl, hinv', hbel, hkeep⟩

end Go.Proofs.Qxb6004011a
