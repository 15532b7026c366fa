/-
  The plain mathematics of a route's fault: what the program and the standards' model both reckon. Nothing of Go's run in it.
-/
import Derived.Test.Qxb6003815aDoorIter
namespace Go.Proofs.Qxb6003815aDoor
set_option linter.unusedVariables false

/-- Is there a community of kind k among the first n? -/
def anyK (zs : List Int) (k : Int) : Nat → Bool
  | 0 => false
  | i + 1 => anyK zs k i || (kindOf (cB zs i 0) (cB zs i 1) == k)
theorem anyK_true {zs : List Int} {k : Int} {n i : Nat} (hi : i < n) (h : kindOf (cB zs i 0) (cB zs i 1) = k) : anyK zs k n = true := by
  induction n with
  | zero => omega
  | succ n ih =>
    by_cases e : i = n
    · subst e; simp [anyK, h]
    · simp [anyK, ih (by omega)]
theorem anyK_false {zs : List Int} {k : Int} {n : Nat} (h : NoneOf zs k n) : anyK zs k n = false := by
  induction n with
  | zero => rfl
  | succ n ih =>
    have h1 := h n (by omega)
    simp only [anyK, ih (fun j hj => h j (by omega)), Bool.false_or]
    simpa using h1

/-- The first community of kind k among the first n. -/
def firstK (zs : List Int) (k : Int) : Nat → Option Nat
  | 0 => none
  | i + 1 => match firstK zs k i with
    | some j => some j
    | none => if kindOf (cB zs i 0) (cB zs i 1) = k then some i else none
theorem firstK_none {zs : List Int} {k : Int} {n : Nat} (h : NoneOf zs k n) : firstK zs k n = none := by
  induction n with
  | zero => rfl
  | succ n ih => simp only [firstK, ih (fun j hj => h j (by omega))]; rw [if_neg (h n (by omega))]
theorem firstK_some {zs : List Int} {k : Int} {n i : Nat} (hi : i < n) (hno : NoneOf zs k i) (h : kindOf (cB zs i 0) (cB zs i 1) = k) : firstK zs k n = some i := by
  induction n with
  | zero => omega
  | succ n ih =>
    by_cases e : i = n
    · subst e; simp only [firstK, firstK_none hno]; rw [if_pos h]
    · simp only [firstK, ih (by omega)]

/-- What an ESI Label community asks. -/
def eslOf (zs : List Int) (n : Nat) : Int :=
  match firstK zs 5 n with
  | none => 0
  | some i => if cB zs i 2 / 64 = 0 then 0 else if bits .and .u8 (cB zs i 2) 3 = 1 then 18 else if fixB zs n then 19 else 0

/-- The fault of a route: typ, tag, label, first octet of the ESI; z: the ESI is zero; u: the gateway is zero. -/
def faultOf (typ tag label e0 : Int) (z u : Bool) (zs : List Int) (n : Nat) : Int :=
  if 5 < e0 then 15
  else if typ = 5 then (if z = false ∧ u = false then 16 else if label = 0 ∧ z = true ∧ u = true ∧ anyK zs 7 n = false then 17 else 0)
  else if typ = 1 ∧ tag = 4294967295 then eslOf zs n else 0

theorem eslOf_ne (zs : List Int) (n : Nat) : eslOf zs n ≠ 15 ∧ 0 ≤ eslOf zs n ∧ eslOf zs n ≤ 19 := by
  unfold eslOf
  split
  · omega
  · split
    · omega
    · split
      · omega
      · split <;> omega
theorem faultOf_15 (typ tag label e0 : Int) (z u : Bool) (zs : List Int) (n : Nat) : faultOf typ tag label e0 z u zs n = 15 ↔ 5 < e0 := by
  unfold faultOf
  have h := eslOf_ne zs n
  by_cases a : 5 < e0
  · simp [a]
  · rw [if_neg a]
    by_cases b : typ = 5
    · rw [if_pos b]
      split
      · omega
      · split <;> omega
    · rw [if_neg b]
      split <;> omega

theorem kind7 {a b : Int} (ha : 0 ≤ a) (hb : 0 ≤ b) : kindOf a b = 7 ↔ a = 6 ∧ b = 3 := by
  unfold kindOf
  split
  · omega
  · split
    · omega
    · split
      · omega
      · split <;> omega
theorem kind5 {a b : Int} (ha : 0 ≤ a) (hb : 0 ≤ b) : kindOf a b = 5 ↔ a = 6 ∧ b = 1 := by
  unfold kindOf
  split
  · omega
  · split
    · omega
    · split
      · omega
      · split <;> omega
theorem kind2 {a b : Int} (ha : 0 ≤ a) (hb : 0 ≤ b) : kindOf a b = 2 ↔ a = 3 ∧ b = 12 := by
  unfold kindOf
  split
  · omega
  · split
    · omega
    · split
      · omega
      · split <;> omega

end Go.Proofs.Qxb6003815aDoor
