/-
  The scanner in memory; 'Done', 'Peek', the three tests on a byte.
-/
import Derived.Test.Qxb6003738aRows
import Derived.WalkKit
import Derived.ProofKit
import Derived.OpenShut
import Derived.ShutString
import Derived.ChangeOld
import Derived.Below
import Derived.WalkSpells
import Derived.OneCell
import Derived.RegionTactic
import Derived.BigRegion
import Derived.Deep.OwnRows
import Derived.Deep.LoopGhost
import Derived.Deep.QuietTactic
import Derived.BigQuiet
namespace Go.Proofs.Qxb6003738a
open Go.ChangeShapes Go.WideShapes Go.ChangeAt Go.RowKit
set_option linter.unusedVariables false

/-- The byte at a place, as a number. -/
def byteAt (s : ByteArray) (k : Nat) : Int := if h : k < s.size then (s[k].toNat : Int) else 0
theorem byteAt_in {s : ByteArray} {k : Nat} (h : k < s.size) : byteAt s k = (s[k].toNat : Int) := dif_pos h
theorem byteAt_bd (s : ByteArray) (k : Nat) : 0 ≤ byteAt s k ∧ byteAt s k ≤ 255 := by
  unfold byteAt
  split
  · rename_i h
    have := UInt8.toNat_lt s[k]
    omega
  · omega

def letC (c : Int) : Bool := decide (65 ≤ c ∧ c ≤ 90)
def digC (c : Int) : Bool := decide (48 ≤ c ∧ c ≤ 57)
def namC (c : Int) : Bool := decide ((65 ≤ c ∧ c ≤ 90) ∨ (48 ≤ c ∧ c ≤ 57) ∨ c = 36)
def spaC (c : Int) : Bool := decide (c = 32)

/-- The scanner in block b: its text s, its position p. -/
def Sc (b : Nat) (s : ByteArray) (p : Nat) (w : World) : Prop := w.heap[b]? = some (.cells #[.string s, .int .i64 p] 26 (0, 0))

theorem Sc.text {b : Nat} {s : ByteArray} {p : Nat} {w : World} (h : Sc b s p w) : w.cell? ⟨b, 0, none⟩ = some (.string s) := by unfold Sc at h; simp [World.cell?, h]
theorem Sc.pos {b : Nat} {s : ByteArray} {p : Nat} {w : World} (h : Sc b s p w) : w.cell? ⟨b, 1, none⟩ = some (.int .i64 p) := by unfold Sc at h; simp [World.cell?, h]
theorem Sc.free {b : Nat} {s : ByteArray} {p : Nat} {w : World} (h : Sc b s p w) : w.frozen? ⟨b, 1, none⟩ = false := by unfold Sc at h; simp [World.frozen?, h]
theorem Sc.lt {b : Nat} {s : ByteArray} {p : Nat} {w : World} (h : Sc b s p w) : b < w.heap.size := lt_of_block h
theorem Sc.set {b : Nat} {s : ByteArray} {p : Nat} {w : World} (h : Sc b s p w) (q : Nat) : Sc b s q (w.setCell ⟨b, 1, none⟩ (.int .i64 q)) := by
  unfold Sc at *
  have hlt := lt_of_block h
  have h' : w.heap[b] = .cells #[.string s, .int .i64 p] 26 (0, 0) := by simpa [Array.getElem?_eq_getElem hlt] using h
  show (w.heap.modify b _)[b]? = _
  rw [Array.getElem?_eq_getElem (by simpa using hlt), Array.getElem_modify_self, h']
  rfl
theorem Sc.of_block {b : Nat} {s : ByteArray} {p : Nat} {w w' : World} (h : Sc b s p w) (e : w'.heap[b]? = w.heap[b]?) : Sc b s p w' := by unfold Sc at *; rw [e]; exact h

/-- Nothing but block b has turned. -/
structure Only (b : Nat) (w w' : World) : Prop where
  os : w'.os = w.os
  tape : w'.tape = w.tape
  output : w'.output = w.output
  size : w'.heap.size = w.heap.size
  block : ∀ k, k ≠ b → w'.heap[k]? = w.heap[k]?

theorem Only.refl (b : Nat) (w : World) : Only b w w := ⟨rfl, rfl, rfl, rfl, fun _ _ => rfl⟩
theorem Only.drew {b : Nat} {w w' : World} (h : Only b w w') : Only b w w'.drew := ⟨h.os, h.tape, h.output, h.size, h.block⟩
theorem Only.trans {b : Nat} {w w' w'' : World} (h : Only b w w') (k : Only b w' w'') : Only b w w'' :=
  ⟨k.os.trans h.os, k.tape.trans h.tape, k.output.trans h.output, k.size.trans h.size, fun i hi => (k.block i hi).trans (h.block i hi)⟩
theorem Only.set {b : Nat} {w w' : World} (h : Only b w w') (o : Nat) (v : Value) : Only b w (w'.setCell ⟨b, o, none⟩ v) :=
  h.trans ⟨rfl, rfl, rfl, Deep.nblk_setCell _ _ _, fun k hk => Deep.blk_setCell_other _ _ _ _ hk⟩
theorem Only.below {B b : Nat} {w w' : World} (h : Only b w w') (hb : B ≤ b) : Below B w w' :=
  ⟨h.os, h.tape, h.output, by rw [h.size]; exact Nat.le_refl _, fun k hk => h.block k (by omega)⟩

set_option maxHeartbeats 400000 in
theorem done_no (b : Nat) (s : ByteArray) (p : Nat) (w : World) (h : Sc b s p w) (hp : p < s.size) :
    Calls Try.prog 15 #[.pointer (some ⟨b, 0, none⟩)] w fun e w' => e = .returned (.bool false) ∧ w' = w.drew := by
  have h0 := h.text
  have h1 := h.pos
  have hd : decide (s.size ≤ p) = false := decide_eq_false (by omega)
  clear h
  go_enter Try.func15, Try.ntmps15
  go_wp2
  go_region
  all_goals (go_wp2; go_ret)
  all_goals exact ⟨rfl, rfl⟩

set_option maxHeartbeats 400000 in
theorem done_yes (b : Nat) (s : ByteArray) (p : Nat) (w : World) (h : Sc b s p w) (hp : s.size ≤ p) :
    Calls Try.prog 15 #[.pointer (some ⟨b, 0, none⟩)] w fun e w' => e = .returned (.bool true) ∧ w' = w.drew := by
  have h0 := h.text
  have h1 := h.pos
  clear h
  go_enter Try.func15, Try.ntmps15
  go_wp2
  go_region
  all_goals (go_wp2; go_ret)
  all_goals exact ⟨rfl, rfl⟩

set_option maxHeartbeats 400000 in
theorem peek_any (b : Nat) (s : ByteArray) (p : Nat) (w : World) (h : Sc b s p w) (hp : p < s.size) :
    Calls Try.prog 16 #[.pointer (some ⟨b, 0, none⟩)] w fun e w' => e = .returned (.int .u8 (byteAt s p)) ∧ w' = w.drew := by
  have h0 := h.text
  have h1 := h.pos
  rw [byteAt_in hp]
  clear h
  go_enter Try.func16, Try.ntmps16
  go_wp2
  go_region
  all_goals (go_wp2; go_ret)
  all_goals exact ⟨rfl, rfl⟩

theorem letter_any (c : Int) (w : World) : Calls Try.prog 22 #[.int .u8 c] w fun e w' => e = .returned (.bool (letC c)) ∧ w' = w := by
  unfold letC
  by_cases h1 : 65 ≤ c <;> by_cases h2 : c ≤ 90 <;> simp only [h1, h2, and_self, and_true, and_false, decide_true, decide_false]
  all_goals
    go_enter Try.func22, Try.ntmps22
    go_wp2
    go_ret
    exact ⟨rfl, rfl⟩

theorem digit_any (c : Int) (w : World) : Calls Try.prog 23 #[.int .u8 c] w fun e w' => e = .returned (.bool (digC c)) ∧ w' = w := by
  unfold digC
  by_cases h1 : 48 ≤ c <;> by_cases h2 : c ≤ 57 <;> simp only [h1, h2, and_self, and_true, and_false, decide_true, decide_false]
  all_goals
    go_enter Try.func23, Try.ntmps23
    go_wp2
    go_ret
    exact ⟨rfl, rfl⟩

end Go.Proofs.Qxb6003738a
