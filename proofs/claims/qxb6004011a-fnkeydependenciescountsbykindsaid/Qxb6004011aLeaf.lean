/-
  The leaves of the road of 'FnKeyDependenciesCountsByKind': the two bounds on lengths, 'keyFits', 'cloneI32'.
-/
import Derived.Test.Qxb6004011aRows
import Derived.WalkKit
import Derived.ProofKit
import Derived.OpenShut
import Derived.ShutString
import Derived.ChangeOld
import Derived.Below
import Derived.WalkSpells
namespace Go.Proofs.Qxb6004011a
open Go.ChangeShapes Go.WideShapes Go.ChangeAt Go.RowKit
set_option linter.unusedVariables false

/-- A slice of integers: nil; or a row of 'cap' cells, the numbers 'zs'. -/
def IsRow (k : IntKind) (w : World) (a : Option Addr) (len cap : Nat) (zs : List Int) : Prop :=
  (a = none ∧ len = 0 ∧ cap = 0 ∧ zs = []) ∨
  ∃ x, a = some x ∧ len ≤ cap ∧ cap ≤ maxLen ∧ zs.length = cap ∧ (∀ i, i < zs.length → w.cell? (x.add i) = some (.int k (zs.getD i 0))) ∧ ∀ n ∈ zs, (Lit.int k n).wf = true

/-- A row that is not empty: where it lies, its cells, its numbers' bounds. -/
theorem IsRow.at {w : World} {a : Option Addr} {len cap : Nat} {zs : List Int} (h : IsRow .i32 w a len cap zs) (hl : 0 < len) :
    ∃ b off, a = some ⟨b, off, none⟩ ∧ len ≤ zs.length ∧ (∀ k, k < zs.length → w.cell? ⟨b, off + k, none⟩ = some (.int .i32 (zs.getD k 0))) ∧ ∀ k, -2147483648 ≤ zs.getD k 0 ∧ zs.getD k 0 ≤ 2147483647 := by
  rcases h with ⟨_, h, _⟩ | ⟨x, hx, hlc, _, hzl, hc, hwf⟩
  · omega
  · obtain ⟨b, off, rfl, hc'⟩ := ints_at hc (by omega)
    refine ⟨b, off, hx, by omega, hc', fun k => ?_⟩
    by_cases hk : k < zs.length
    · have := hwf (zs.getD k 0) (by simp [List.getD, hk])
      exact bounds_i32 this
    · simp [List.getD, List.getElem?_eq_none (by omega : zs.length ≤ k)]

theorem zz_any (a0 a1 a2 : Option Addr) (l0 c0 l1 c1 l2 c2 : Nat) (h0 : l0 ≤ maxLen) (h1 : l1 ≤ maxLen) (h2 : l2 ≤ maxLen) (w : World) :
    Calls Try.prog 12 #[.slice a0 l0 c0, .slice a1 l1 c1, .slice a2 l2 c2] w fun e w' => (e = .returned (.bool true) ∨ e = .returned (.bool false)) ∧ w' = w := by
  unfold maxLen at h0 h1 h2
  go_enter Try.func12, Try.ntmps12
  go_wp2
  all_goals (go_ret; first | exact ⟨Or.inl rfl, rfl⟩ | exact ⟨Or.inr rfl, rfl⟩)

theorem kb_any (a0 a1 a2 : Option Addr) (l0 c0 l1 c1 l2 c2 : Nat) (h0 : l0 ≤ maxLen) (h1 : l1 ≤ maxLen) (h2 : l2 ≤ maxLen) (w : World) :
    Calls Try.prog 7 #[.slice a0 l0 c0, .slice a1 l1 c1, .slice a2 l2 c2] w fun e w' => (e = .returned (.bool true) ∨ e = .returned (.bool false)) ∧ w' = w := by
  unfold maxLen at h0 h1 h2
  have key : ∀ b : Bool, (Ending.returned (.bool b) = .returned (.bool true) ∨ Ending.returned (.bool b) = .returned (.bool false)) := by
    intro b; cases b
    · exact Or.inr rfl
    · exact Or.inl rfl
  go_enter Try.func7, Try.ntmps7
  go_wp2
  all_goals (go_ret; exact ⟨key _, rfl⟩)

/-- What 'keyFits' lets by. -/
def Fits (l0 l1 l2 : Nat) (z2 : List Int) : Prop := l0 ≤ 4096 ∧ l1 ≤ 4096 ∧ l1 = l2 ∧ ∀ i, i < l2 → 0 ≤ z2.getD i 0 ∧ z2.getD i 0 ≤ l0

set_option maxHeartbeats 800000 in
theorem kf_any (a0 a1 a2 : Option Addr) (l0 c0 l1 c1 l2 c2 : Nat) (z2 : List Int) (h0 : l0 ≤ maxLen) (h1 : l1 ≤ maxLen) (h2 : l2 ≤ maxLen) (w : World) (r2 : IsRow .i32 w a2 l2 c2 z2) :
    Calls Try.prog 8 #[.slice a0 l0 c0, .slice a1 l1 c1, .slice a2 l2 c2] w fun e w' => ((e = .returned (.bool true) ∧ Fits l0 l1 l2 z2) ∨ e = .returned (.bool false)) ∧ w' = w := by
  unfold maxLen at h0 h1 h2
  by_cases g0 : l0 ≤ 4096
  case neg =>
    have g0' : (4096 : Int) < l0 := by omega
    go_enter Try.func8, Try.ntmps8
    go_wp2
    go_ret
    exact ⟨Or.inr rfl, rfl⟩
  by_cases g1 : l1 ≤ 4096
  case neg =>
    have g1' : (4096 : Int) < l1 := by omega
    go_enter Try.func8, Try.ntmps8
    go_wp2
    go_ret
    exact ⟨Or.inr rfl, rfl⟩
  by_cases g2 : l1 = l2
  case neg =>
    have g2' : ((l1 : Int) != (l2 : Int)) = true := by simp; omega
    go_enter Try.func8, Try.ntmps8
    go_wp2
    go_ret
    exact ⟨Or.inr rfl, rfl⟩
  subst g2
  go_enter Try.func8, Try.ntmps8
  go_wp2
  go_loop [7] (fun i => ∃ k : Nat, k ≤ l1 ∧ i = .int .i64 k ∧ ∀ i, i < k → 0 ≤ z2.getD i 0 ∧ z2.getD i 0 ≤ l0) (fun i => l1 - (intOf i).toNat)
  case atStart => exact ⟨0, Nat.zero_le _, rfl, fun i hi => absurd hi (Nat.not_lt_zero _)⟩
  case round =>
    obtain ⟨k, hk, rfl, hz0⟩ := hrel
    have hz : Hid (∀ i, i < k → 0 ≤ z2.getD i 0 ∧ z2.getD i 0 ≤ l0) := hz0
    clear hz0
    by_cases hlt : k < l1
    · obtain ⟨b, off, rfl, hlz, hcs, hbd⟩ := r2.at (by omega)
      obtain ⟨z, hzz⟩ : ∃ z, z = z2.getD k 0 := ⟨_, rfl⟩
      have hc := hcs k (by omega)
      obtain ⟨b1, b2⟩ := hbd k
      rw [← hzz] at hc b1 b2
      have HZ : Hid (z = z2.getD k 0) := hzz
      clear hzz r2 hcs hbd
      by_cases hneg : z < 0
      · go_wp2
        go_ret
        exact ⟨Or.inr rfl, rfl⟩
      by_cases hbig : (l0 : Int) < z
      · go_wp2
        go_ret
        exact ⟨Or.inr rfl, rfl⟩
      go_wp2
      go_round
      case rel =>
        refine ⟨k + 1, by omega, by go_num, ?_⟩
        intro i hi
        by_cases e : i = k
        · subst e; rw [← HZ.out]; omega
        · exact hz.out i (by omega)
      case measure => simp [intOf]; omega
    · go_wp2
      go_ret
      exact ⟨Or.inl ⟨rfl, g0, g1, rfl, fun i hi => hz.out i (by omega)⟩, rfl⟩

end Go.Proofs.Qxb6004011a
