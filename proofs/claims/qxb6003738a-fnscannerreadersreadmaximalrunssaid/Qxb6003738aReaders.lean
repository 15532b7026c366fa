/-
  The readers: each reads a maximal run of its kind of byte.
-/
import Derived.Test.Qxb6003738aLeaf
namespace Go.Proofs.Qxb6003738a
open Go.ChangeShapes Go.WideShapes Go.ChangeAt Go.RowKit
set_option linter.unusedVariables false

theorem namC_let {c : Int} (h : letC c = true) : namC c = true := by simp [letC] at h; simp [namC]; omega
theorem namC_dig {c : Int} (h : digC c = true) : namC c = true := by simp [digC] at h; simp [namC]; omega
theorem namC_dol {c : Int} (h : c = 36) : namC c = true := by simp [namC]; omega
theorem namC_no {c : Int} (h1 : letC c = false) (h2 : digC c = false) (h3 : c ≠ 36) : namC c = false := by simp [letC] at h1; simp [digC] at h2; simp [namC]; omega
theorem letC_of_namC {c : Int} (h : namC c = false) : letC c = false := by
  cases e : letC c with
  | false => rfl
  | true => rw [namC_let e] at h; cases h

theorem name_any (c : Int) (w : World) : Calls Try.prog 21 #[.int .u8 c] w fun e w' => e = .returned (.bool (namC c)) ∧ w' = w := by
  cases h1 : letC c with
  | true =>
    rw [namC_let h1]
    go_enter Try.func21, Try.ntmps21
    go_wp2_with (first | (go_at_call 22; refine (letter_any c _).mono ?_; rintro e w' ⟨rfl, rfl⟩) | (go_at_call 23; refine (digit_any c _).mono ?_; rintro e w' ⟨rfl, rfl⟩))
    go_ret
    exact ⟨rfl, rfl⟩
  | false =>
    cases h2 : digC c with
    | true =>
      rw [namC_dig h2]
      go_enter Try.func21, Try.ntmps21
      go_wp2_with (first | (go_at_call 22; refine (letter_any c _).mono ?_; rintro e w' ⟨rfl, rfl⟩) | (go_at_call 23; refine (digit_any c _).mono ?_; rintro e w' ⟨rfl, rfl⟩))
      go_ret
      exact ⟨rfl, rfl⟩
    | false =>
      by_cases h3 : c = 36
      · rw [namC_dol h3]
        have h3' : (c == 36) = true := by simp [h3]
        clear h3
        go_enter Try.func21, Try.ntmps21
        go_wp2_with (first | (go_at_call 22; refine (letter_any c _).mono ?_; rintro e w' ⟨rfl, rfl⟩) | (go_at_call 23; refine (digit_any c _).mono ?_; rintro e w' ⟨rfl, rfl⟩))
        go_ret
        exact ⟨rfl, rfl⟩
      · rw [namC_no h1 h2 h3]
        have h3' : (c == 36) = false := by simp [h3]
        clear h3
        go_enter Try.func21, Try.ntmps21
        go_wp2_with (first | (go_at_call 22; refine (letter_any c _).mono ?_; rintro e w' ⟨rfl, rfl⟩) | (go_at_call 23; refine (digit_any c _).mono ?_; rintro e w' ⟨rfl, rfl⟩))
        go_ret
        exact ⟨rfl, rfl⟩

/-- From p to q stands a maximal run of the kind. -/
structure IsRun (cls : Int → Bool) (s : ByteArray) (p q : Nat) : Prop where
  le : p ≤ q
  size : q ≤ s.size
  all : ∀ i, p ≤ i → i < q → cls (byteAt s i) = true
  stop : q < s.size → cls (byteAt s q) = false

set_option maxRecDepth 100000 in
set_option maxHeartbeats 800000 in
theorem word_any (b : Nat) (s : ByteArray) (p : Nat) (w : World) (hs : s.size ≤ 1048576) (h : Sc b s p w) (hp : p ≤ s.size) :
    Calls Try.prog 13 #[.pointer (some ⟨b, 0, none⟩)] w fun e w' => ∃ q, e = .returned (.string (s.extract p q)) ∧ IsRun letC s p q ∧ Sc b s q w' ∧ Only b w w' := by
  have h1 := h.pos
  go_enter Try.func13, Try.ntmps13
  go_wp2
  go_loopg [] (s.size - p) (fun k wr => ∃ q, k = s.size - q ∧ p ≤ q ∧ q ≤ s.size ∧ (∀ i, p ≤ i → i < q → letC (byteAt s i) = true) ∧ Sc b s q wr ∧ Only b w wr)
  case atStart => exact ⟨p, rfl, Nat.le_refl _, hp, fun i h1 h2 => by omega, h, Only.refl _ _⟩
  case round =>
    obtain ⟨q, hk, hpq, hqs, hall, hsc, hon⟩ := hrel
    have HALL : Hid (∀ i, p ≤ i → i < q → letC (byteAt s i) = true) := hall
    have HK : Hid (gk = s.size - q) := hk
    have HS : Hid (Sc b s q wr) := hsc
    have c0 := hsc.text
    have c1 := hsc.pos
    have f1 := hsc.free
    clear hall hk h h1 hsc
    by_cases hq : q < s.size
    · cases hc : letC (byteAt s q) with
      | true =>
        go_wp2_with (first | (go_at_call 15; refine (done_no b s q _ ?_ hq).mono ?_; exact HS.out; rintro e w' ⟨rfl, rfl⟩) | (go_at_call 16; refine (peek_any b s q _ ?_ hq).mono ?_; exact HS.out; rintro e w' ⟨rfl, rfl⟩) | (go_at_call 22; refine (letter_any _ _).mono ?_; rintro e w' ⟨rfl, rfl⟩))
        go_roundg (s.size - (q + 1))
        case measure => rw [HK.out]; omega
        case rel =>
          refine ⟨q + 1, rfl, by omega, by omega, fun i hi1 hi2 => ?_, HS.out.set (q + 1), ((hon.set _ _).drew).drew⟩
          by_cases e : i = q
          · subst e; exact hc
          · exact HALL.out i hi1 (by omega)
      | false =>
        go_wp2_with (first | (go_at_call 15; refine (done_no b s q _ ?_ hq).mono ?_; exact HS.out; rintro e w' ⟨rfl, rfl⟩) | (go_at_call 16; refine (peek_any b s q _ ?_ hq).mono ?_; exact HS.out; rintro e w' ⟨rfl, rfl⟩) | (go_at_call 22; refine (letter_any _ _).mono ?_; rintro e w' ⟨rfl, rfl⟩))
        go_region
        go_wp2
        go_ret
        exact ⟨q, rfl, ⟨hpq, hqs, HALL.out, fun _ => hc⟩, HS.out, hon.drew.drew.drew⟩
    · go_wp2_with (first | (go_at_call 15; refine (done_yes b s q _ ?_ (by omega)).mono ?_; exact HS.out; rintro e w' ⟨rfl, rfl⟩))
      go_region
      go_wp2
      go_ret
      exact ⟨q, rfl, ⟨hpq, hqs, HALL.out, fun h => absurd h hq⟩, HS.out, hon.drew.drew⟩

set_option maxRecDepth 100000 in
set_option maxHeartbeats 800000 in
theorem nameR_any (b : Nat) (s : ByteArray) (p : Nat) (w : World) (hs : s.size ≤ 1048576) (h : Sc b s p w) (hp : p ≤ s.size) :
    Calls Try.prog 12 #[.pointer (some ⟨b, 0, none⟩)] w fun e w' => ∃ q, e = .returned (.string (s.extract p q)) ∧ IsRun namC s p q ∧ Sc b s q w' ∧ Only b w w' := by
  have h1 := h.pos
  go_enter Try.func12, Try.ntmps12
  go_wp2
  go_loopg [] (s.size - p) (fun k wr => ∃ q, k = s.size - q ∧ p ≤ q ∧ q ≤ s.size ∧ (∀ i, p ≤ i → i < q → namC (byteAt s i) = true) ∧ Sc b s q wr ∧ Only b w wr)
  case atStart => exact ⟨p, rfl, Nat.le_refl _, hp, fun i h1 h2 => by omega, h, Only.refl _ _⟩
  case round =>
    obtain ⟨q, hk, hpq, hqs, hall, hsc, hon⟩ := hrel
    have HALL : Hid (∀ i, p ≤ i → i < q → namC (byteAt s i) = true) := hall
    have HK : Hid (gk = s.size - q) := hk
    have HS : Hid (Sc b s q wr) := hsc
    have c0 := hsc.text
    have c1 := hsc.pos
    have f1 := hsc.free
    clear hall hk h h1 hsc
    by_cases hq : q < s.size
    · cases hc : namC (byteAt s q) with
      | true =>
        go_wp2_with (first | (go_at_call 15; refine (done_no b s q _ ?_ hq).mono ?_; exact HS.out; rintro e w' ⟨rfl, rfl⟩) | (go_at_call 16; refine (peek_any b s q _ ?_ hq).mono ?_; exact HS.out; rintro e w' ⟨rfl, rfl⟩) | (go_at_call 21; refine (name_any _ _).mono ?_; rintro e w' ⟨rfl, rfl⟩))
        go_roundg (s.size - (q + 1))
        case measure => rw [HK.out]; omega
        case rel =>
          refine ⟨q + 1, rfl, by omega, by omega, fun i hi1 hi2 => ?_, HS.out.set (q + 1), ((hon.set _ _).drew).drew⟩
          by_cases e : i = q
          · subst e; exact hc
          · exact HALL.out i hi1 (by omega)
      | false =>
        go_wp2_with (first | (go_at_call 15; refine (done_no b s q _ ?_ hq).mono ?_; exact HS.out; rintro e w' ⟨rfl, rfl⟩) | (go_at_call 16; refine (peek_any b s q _ ?_ hq).mono ?_; exact HS.out; rintro e w' ⟨rfl, rfl⟩) | (go_at_call 21; refine (name_any _ _).mono ?_; rintro e w' ⟨rfl, rfl⟩))
        go_region
        go_wp2
        go_ret
        exact ⟨q, rfl, ⟨hpq, hqs, HALL.out, fun _ => hc⟩, HS.out, hon.drew.drew.drew⟩
    · go_wp2_with (first | (go_at_call 15; refine (done_yes b s q _ ?_ (by omega)).mono ?_; exact HS.out; rintro e w' ⟨rfl, rfl⟩))
      go_region
      go_wp2
      go_ret
      exact ⟨q, rfl, ⟨hpq, hqs, HALL.out, fun h => absurd h hq⟩, HS.out, hon.drew.drew⟩

set_option maxRecDepth 100000 in
set_option maxHeartbeats 800000 in
theorem digits_any (b : Nat) (s : ByteArray) (p : Nat) (w : World) (hs : s.size ≤ 1048576) (h : Sc b s p w) (hp : p ≤ s.size) :
    Calls Try.prog 14 #[.pointer (some ⟨b, 0, none⟩)] w fun e w' => ∃ q : Nat, e = .returned (.int .i64 ((q : Int) - (p : Int))) ∧ IsRun digC s p q ∧ Sc b s q w' ∧ Only b w w' := by
  have h1 := h.pos
  go_enter Try.func14, Try.ntmps14
  go_wp2
  go_loopg [] (s.size - p) (fun k wr => ∃ q, k = s.size - q ∧ p ≤ q ∧ q ≤ s.size ∧ (∀ i, p ≤ i → i < q → digC (byteAt s i) = true) ∧ Sc b s q wr ∧ Only b w wr)
  case atStart => exact ⟨p, rfl, Nat.le_refl _, hp, fun i h1 h2 => by omega, h, Only.refl _ _⟩
  case round =>
    obtain ⟨q, hk, hpq, hqs, hall, hsc, hon⟩ := hrel
    have HALL : Hid (∀ i, p ≤ i → i < q → digC (byteAt s i) = true) := hall
    have HK : Hid (gk = s.size - q) := hk
    have HS : Hid (Sc b s q wr) := hsc
    have c0 := hsc.text
    have c1 := hsc.pos
    have f1 := hsc.free
    clear hall hk h h1 hsc
    by_cases hq : q < s.size
    · cases hc : digC (byteAt s q) with
      | true =>
        go_wp2_with (first | (go_at_call 15; refine (done_no b s q _ ?_ hq).mono ?_; exact HS.out; rintro e w' ⟨rfl, rfl⟩) | (go_at_call 16; refine (peek_any b s q _ ?_ hq).mono ?_; exact HS.out; rintro e w' ⟨rfl, rfl⟩) | (go_at_call 23; refine (digit_any _ _).mono ?_; rintro e w' ⟨rfl, rfl⟩))
        go_roundg (s.size - (q + 1))
        case measure => rw [HK.out]; omega
        case rel =>
          refine ⟨q + 1, rfl, by omega, by omega, fun i hi1 hi2 => ?_, HS.out.set (q + 1), ((hon.set _ _).drew).drew⟩
          by_cases e : i = q
          · subst e; exact hc
          · exact HALL.out i hi1 (by omega)
      | false =>
        go_wp2_with (first | (go_at_call 15; refine (done_no b s q _ ?_ hq).mono ?_; exact HS.out; rintro e w' ⟨rfl, rfl⟩) | (go_at_call 16; refine (peek_any b s q _ ?_ hq).mono ?_; exact HS.out; rintro e w' ⟨rfl, rfl⟩) | (go_at_call 23; refine (digit_any _ _).mono ?_; rintro e w' ⟨rfl, rfl⟩))
        go_ret
        exact ⟨q, rfl, ⟨hpq, hqs, HALL.out, fun _ => hc⟩, HS.out, hon.drew.drew⟩
    · go_wp2_with (first | (go_at_call 15; refine (done_yes b s q _ ?_ (by omega)).mono ?_; exact HS.out; rintro e w' ⟨rfl, rfl⟩))
      go_ret
      exact ⟨q, rfl, ⟨hpq, hqs, HALL.out, fun h => absurd h hq⟩, HS.out, hon.drew⟩

set_option maxRecDepth 100000 in
set_option maxHeartbeats 800000 in
theorem skip_any (b : Nat) (s : ByteArray) (p : Nat) (w : World) (hs : s.size ≤ 1048576) (h : Sc b s p w) (hp : p ≤ s.size) :
    Calls Try.prog 20 #[.pointer (some ⟨b, 0, none⟩)] w fun e w' => ∃ q, e = .returned (.tuple #[]) ∧ IsRun spaC s p q ∧ Sc b s q w' ∧ Only b w w' := by
  have h1 := h.pos
  go_enter Try.func20, Try.ntmps20
  go_wp2
  go_loopg [] (s.size - p) (fun k wr => ∃ q, k = s.size - q ∧ p ≤ q ∧ q ≤ s.size ∧ (∀ i, p ≤ i → i < q → spaC (byteAt s i) = true) ∧ Sc b s q wr ∧ Only b w wr)
  case atStart => exact ⟨p, rfl, Nat.le_refl _, hp, fun i h1 h2 => by omega, h, Only.refl _ _⟩
  case round =>
    obtain ⟨q, hk, hpq, hqs, hall, hsc, hon⟩ := hrel
    have HALL : Hid (∀ i, p ≤ i → i < q → spaC (byteAt s i) = true) := hall
    have HK : Hid (gk = s.size - q) := hk
    have HS : Hid (Sc b s q wr) := hsc
    have c0 := hsc.text
    have c1 := hsc.pos
    have f1 := hsc.free
    clear hall hk h h1 hsc
    by_cases hq : q < s.size
    · cases hc : spaC (byteAt s q) with
      | true =>
        have hc' : (byteAt s q == 32) = true := by simpa [spaC] using hc
        go_wp2_with (first | (go_at_call 15; refine (done_no b s q _ ?_ hq).mono ?_; exact HS.out; rintro e w' ⟨rfl, rfl⟩) | (go_at_call 16; refine (peek_any b s q _ ?_ hq).mono ?_; exact HS.out; rintro e w' ⟨rfl, rfl⟩))
        go_roundg (s.size - (q + 1))
        case measure => rw [HK.out]; omega
        case rel =>
          refine ⟨q + 1, rfl, by omega, by omega, fun i hi1 hi2 => ?_, HS.out.set (q + 1), ((hon.set _ _).drew).drew⟩
          by_cases e : i = q
          · subst e; exact hc
          · exact HALL.out i hi1 (by omega)
      | false =>
        have hc' : (byteAt s q == 32) = false := by simpa [spaC] using hc
        go_wp2_with (first | (go_at_call 15; refine (done_no b s q _ ?_ hq).mono ?_; exact HS.out; rintro e w' ⟨rfl, rfl⟩) | (go_at_call 16; refine (peek_any b s q _ ?_ hq).mono ?_; exact HS.out; rintro e w' ⟨rfl, rfl⟩))
        go_end0
        exact ⟨q, rfl, ⟨hpq, hqs, HALL.out, fun _ => hc⟩, HS.out, hon.drew.drew⟩
    · go_wp2_with (first | (go_at_call 15; refine (done_yes b s q _ ?_ (by omega)).mono ?_; exact HS.out; rintro e w' ⟨rfl, rfl⟩))
      go_end0
      exact ⟨q, rfl, ⟨hpq, hqs, HALL.out, fun h => absurd h hq⟩, HS.out, hon.drew⟩

end Go.Proofs.Qxb6003738a
