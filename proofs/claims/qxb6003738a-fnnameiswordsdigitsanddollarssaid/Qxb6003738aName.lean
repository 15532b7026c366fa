/-
  'zzBytes_..', 'zzHasPrefix' and the walk of 'FnNameIsWordsDigitsAndDollars'.
-/
import Derived.Test.Qxb6003738aReaders
import Derived.Deep.Draws
namespace Go.Proofs.Qxb6003738a
open Go.ChangeShapes Go.WideShapes Go.ChangeAt Go.RowKit
set_option linter.unusedVariables false

theorem zzb_any (s : ByteArray) (p : Int) (hs : s.size ≤ maxLen) (w : World) :
    Calls Try.prog 11 #[.string s, .int .i64 p] w fun e w' => (e = .returned (.bool true) ∨ e = .returned (.bool false)) ∧ w' = w := by
  unfold maxLen at hs
  go_enter Try.func11, Try.ntmps11
  go_wp2
  all_goals (go_ret; first | exact ⟨Or.inl rfl, rfl⟩ | exact ⟨Or.inr rfl, rfl⟩)

set_option maxHeartbeats 800000 in
theorem hasp_any (s p : ByteArray) (w : World) (hs : s.size ≤ 1048576) (hl : p.size ≤ s.size) (hb : ∀ i, i < p.size → byteAt s i = byteAt p i) :
    Calls Try.prog 17 #[.string s, .string p] w fun e w' => e = .returned (.bool true) ∧ ∃ n, w' = w.drewN n := by
  have HB : Hid (∀ i, i < p.size → byteAt s i = byteAt p i) := hb
  clear hb
  go_enter Try.func17, Try.ntmps17
  go_wp2
  go_loopw [5] (fun i wr => ∃ k : Nat, k ≤ p.size ∧ i = .int .i64 k ∧ ∃ n, wr = w.drewN n) (fun i _ => p.size - (intOf i).toNat)
  case atStart => exact ⟨0, Nat.zero_le _, rfl, 0, rfl⟩
  case round =>
    obtain ⟨k, hk, rfl, n, rfl⟩ := hrel
    by_cases hlt : k < p.size
    · have hlt2 : k < s.size := by omega
      have h1 := HB.out k hlt
      rw [byteAt_in hlt, byteAt_in hlt2] at h1
      have e0 : (0 : Int) ≤ (k : Int) := by omega
      have e1 : (k : Int) < (p.size : Int) := by omega
      have e2 : (k : Int) < (s.size : Int) := by omega
      have h2 : ((s[k].toNat : Int) != (p[k].toNat : Int)) = false := by simp [h1]
      clear h1
      go_wp2
      go_region
      go_wp2
      go_roundw
      case rel => exact ⟨k + 1, by omega, by go_num, n + 1, rfl⟩
      case measure => simp [intOf]; omega
    · go_wp2
      go_ret
      exact ⟨rfl, n, rfl⟩

theorem extract_size {s : ByteArray} {p q : Nat} (h1 : p ≤ q) (h2 : q ≤ s.size) : (s.extract p q).size = q - p := by
  rw [ByteArray.size_extract]; omega
theorem byteAt_extract {s : ByteArray} {p q i : Nat} (h1 : p ≤ q) (h2 : q ≤ s.size) (hi : i < q - p) : byteAt (s.extract p q) i = byteAt s (p + i) := by
  have e := extract_size h1 h2
  have hi' : i < (s.extract p q).size := by omega
  rw [byteAt_in hi', byteAt_in (show p + i < s.size by omega), ByteArray.getElem_extract]

theorem bel_drewN {B : Nat} {a w : World} (h : Below B a w) (n : Nat) : Below B a (w.drewN n) := h.trans ⟨rfl, rfl, rfl, Nat.le_refl _, fun _ _ => rfl⟩

/-- f stands at the head of n. -/
def Pre (f n : ByteArray) : Prop := f.size ≤ n.size ∧ ∀ i, i < f.size → byteAt n i = byteAt f i

theorem run_letter_le {s : ByteArray} {p r q : Nat} (h1 : IsRun letC s p r) (h2 : IsRun namC s p q) : r ≤ q := by
  by_cases h : r ≤ q
  · exact h
  · have a := h1.all q h2.le (by omega)
    have b := h2.stop (by have := h1.size; omega)
    rw [namC_let a] at b
    cases b

theorem pre_of_runs {s : ByteArray} {p r q : Nat} (h1 : IsRun letC s p r) (h2 : IsRun namC s p q) : Pre (s.extract p r) (s.extract p q) := by
  have hrq := run_letter_le h1 h2
  have e1 := extract_size h1.le h1.size
  have e2 := extract_size h2.le h2.size
  refine ⟨by have := h1.le; omega, fun i hi => ?_⟩
  rw [e1] at hi
  rw [byteAt_extract h1.le h1.size hi, byteAt_extract h2.le h2.size (by omega)]

theorem run_unique {cls : Int → Bool} {s : ByteArray} {p q r : Nat} (h1 : IsRun cls s p q) (h2 : IsRun cls s p r) : q = r := by
  rcases Nat.lt_trichotomy q r with h | h | h
  · have a := h2.all q h1.le h
    have b := h1.stop (by have := h2.size; omega)
    rw [a] at b; cases b
  · exact h
  · have a := h1.all r h2.le h
    have b := h2.stop (by have := h1.size; omega)
    rw [a] at b; cases b

/-- All bytes from p to u are name bytes. -/
def AllN (s : ByteArray) (p u : Nat) : Prop := ∀ i, p ≤ i → i < u → namC (byteAt s i) = true
theorem AllN.refl (s : ByteArray) (p : Nat) : AllN s p p := fun i h1 h2 => by omega
theorem AllN.letters {s : ByteArray} {p u r : Nat} (h : AllN s p u) (h1 : IsRun letC s u r) : AllN s p r := fun i hp hr => by
  by_cases e : i < u
  · exact h i hp e
  · exact namC_let (h1.all i (by omega) hr)
theorem AllN.digits {s : ByteArray} {p u r : Nat} (h : AllN s p u) (h1 : IsRun digC s u r) : AllN s p r := fun i hp hr => by
  by_cases e : i < u
  · exact h i hp e
  · exact namC_dig (h1.all i (by omega) hr)
theorem AllN.dollar {s : ByteArray} {p u : Nat} (h : AllN s p u) (h1 : byteAt s u = 36) : AllN s p (u + 1) := fun i hp hr => by
  by_cases e : i < u
  · exact h i hp e
  · have : i = u := by omega
    subst this; exact namC_dol h1
/-- Where no letter, no digit and no dollar is read, the run of name bytes ends. -/
theorem AllN.ends {s : ByteArray} {p u : Nat} (h : AllN s p u) (hp : p ≤ u) (hu : u ≤ s.size) (h1 : IsRun letC s u u) (h2 : IsRun digC s u u) (h3 : u < s.size → byteAt s u ≠ 36) : IsRun namC s p u :=
  ⟨hp, hu, h, fun hlt => namC_no (h1.stop hlt) (h2.stop hlt) (h3 hlt)⟩

theorem sc_alloc (w : World) (s : ByteArray) (p : Nat) : Sc w.heap.size s p (w.alloc (.cells #[.string s, .int .i64 p] 26)) := heap_alloc_new _ _
theorem Sc.alloc {b : Nat} {s : ByteArray} {p : Nat} {w : World} (h : Sc b s p w) (o : Obj) : Sc b s p (w.alloc o) := h.of_block (Deep.blk_alloc_lt _ _ _ h.lt)
theorem Sc.only {b c : Nat} {s : ByteArray} {p : Nat} {w w' : World} (h : Sc b s p w) (k : Only c w w') (hne : b ≠ c) : Sc b s p w' := h.of_block (k.block b hne)

set_option maxRecDepth 100000 in
set_option maxHeartbeats 1600000 in
theorem name_walk (s : ByteArray) (a1 : Int) (w0 : s.size ≤ maxLen) (w1 : (Lit.int .i64 a1).wf = true) (w : World) :
    Calls Try.prog 4 #[.string s, .int .i64 a1] w fun e w' => e = .returned (.bool true) ∧ Below w.heap.size w w' := by
  have hzz := zzb_any s a1 w0
  have w0' := w0
  unfold maxLen at w0'
  by_cases hs : s.size ≤ 65536
  case neg =>
    go_enter Try.func4, Try.ntmps4
    go_wp2_with fail
    refine (hzz _).mono ?_
    rintro e w' ⟨he, rfl⟩
    rcases he with rfl | rfl
    all_goals
      go_wp2
      go_ret
      exact ⟨rfl, Below.refl _ _⟩
  by_cases hp0 : 0 ≤ a1
  case neg =>
    go_enter Try.func4, Try.ntmps4
    go_wp2_with fail
    refine (hzz _).mono ?_
    rintro e w' ⟨he, rfl⟩
    rcases he with rfl | rfl
    all_goals
      go_wp2
      go_ret
      exact ⟨rfl, Below.refl _ _⟩
  by_cases hp1 : a1 ≤ s.size
  case neg =>
    go_enter Try.func4, Try.ntmps4
    go_wp2_with fail
    refine (hzz _).mono ?_
    rintro e w' ⟨he, rfl⟩
    rcases he with rfl | rfl
    all_goals
      go_wp2
      go_ret
      exact ⟨rfl, Below.refl _ _⟩
  obtain ⟨p, rfl⟩ : ∃ p : Nat, a1 = p := ⟨a1.toNat, by omega⟩
  have hp : p ≤ s.size := by omega
  clear hp0 hp1 w0 w0' w1
  go_enter Try.func4, Try.ntmps4
  go_wp2_with fail
  refine (hzz _).mono ?_
  rintro e w' ⟨he, rfl⟩
  clear hzz
  rcases he with rfl | rfl
  case inr =>
    go_wp2
    go_ret
    exact ⟨rfl, Below.refl _ _⟩
  go_wp2_with fail
  refine (nameR_any w'.heap.size s p _ (by omega) (sc_alloc _ _ _) hp).mono ?_
  rintro e w1 ⟨q, rfl, hrun, hsa, hon⟩
  obtain ⟨nm, hnm⟩ : ∃ nm, nm = s.extract p q := ⟨_, rfl⟩
  rw [← hnm]
  have hnsz : nm.size = q - p := by rw [hnm]; exact extract_size hrun.le hrun.size
  have hsz1 : w1.heap.size = w'.heap.size + 1 := by have := hon.size; simpa using this
  have HNS : Hid (nm.size = q - p) := hnsz
  have HNM : Hid (nm = s.extract p q) := hnm
  have hpq := hrun.le
  have hqs := hrun.size
  have HRUN : Hid (IsRun namC s p q) := hrun
  have hb1 : Below w'.heap.size w' w1 := ((Below.refl _ w').alloc (Nat.le_refl _) _).trans (hon.below (Nat.le_refl _))
  clear hnsz hnm hon hrun
  go_wp2_with fail
  go_loopg [8, 9] (s.size - p) (fun k fst fw wr => ∃ u : Nat, k = s.size - u ∧ p ≤ u ∧ u ≤ s.size ∧ AllN s p u ∧ ((fst = .bool true ∧ u = p ∧ fw = .string ⟨#[]⟩) ∨ (fst = .bool false ∧ ∃ f0, fw = .string f0 ∧ Pre f0 nm)) ∧ Sc (w'.heap.size + 1) s u wr ∧ Sc w'.heap.size s q wr ∧ Below w'.heap.size w' wr)
  case atStart =>
    refine ⟨p, rfl, Nat.le_refl _, hp, AllN.refl _ _, Or.inl ⟨rfl, rfl, rfl⟩, ?_, hsa.alloc _, hb1.alloc (by omega) _⟩
    rw [← hsz1]; exact sc_alloc _ _ _
  case round =>
    obtain ⟨u, hk, hpu, hus, hall, hfst, hsb, hsa2, hbw⟩ := hrel
    have HK : Hid (gk = s.size - u) := hk
    have cB := hsb.pos
    clear hk hsa hb1 hsz1
    have hcase : (u8 = .bool true ∧ u = p ∧ u9 = .string ⟨#[]⟩) ∨ (u8 = .bool false ∧ ∃ f0, u9 = .string f0 ∧ Pre f0 nm) := hfst
    clear hfst
    obtain ⟨f1, hf1, hhead⟩ : ∃ f1 : Nat → ByteArray, (∀ r1, IsRun letC s u r1 → Pre (f1 r1) nm) ∧
        ((u8 = .bool true ∧ ∀ r1, f1 r1 = s.extract u r1) ∨ (u8 = .bool false ∧ ∀ r1, u9 = .string (f1 r1))) := by
      rcases hcase with ⟨h1, h2, h3⟩ | ⟨h1, f0, h2, h3⟩
      · subst h2
        exact ⟨fun r1 => s.extract u r1, fun r1 hr => by rw [HNM.out]; exact pre_of_runs hr HRUN.out, Or.inl ⟨h1, fun _ => rfl⟩⟩
      · exact ⟨fun _ => f0, fun _ _ => h3, Or.inr ⟨h1, fun _ => h2⟩⟩
    have HF1 : Hid (∀ r1, IsRun letC s u r1 → Pre (f1 r1) nm) := hf1
    clear hcase hf1
    go_wp2_with fail
    refine (word_any (w'.heap.size + 1) s u _ (by omega) hsb hus).mono ?_
    rintro e w2 ⟨r1, rfl, hr1, hsb2, hon2⟩
    have hsa3 := hsa2.only hon2 (by omega)
    have hbw2 := hbw.trans (hon2.below (by omega))
    have hall2 := hall.letters hr1
    have g1 := hr1.le
    have g2 := hr1.size
    have hpre := HF1.out r1 hr1
    clear hon2 hsa2 hbw hall hsb cB HF1
    have hfw : (u8 = .bool true ∧ f1 r1 = s.extract u r1) ∨ (u8 = .bool false ∧ u9 = .string (f1 r1)) := by
      rcases hhead with ⟨h1, h2⟩ | ⟨h1, h2⟩
      · exact Or.inl ⟨h1, h2 r1⟩
      · exact Or.inr ⟨h1, h2 r1⟩
    clear hhead
    obtain ⟨f2, hf2⟩ : ∃ f2, f2 = f1 r1 := ⟨_, rfl⟩
    rw [← hf2] at hfw hpre
    have HPRE : Hid (Pre f2 nm) := hpre
    have HR1 : Hid (IsRun letC s u r1) := hr1
    clear hf2 hpre hr1 f1
    rcases hfw with ⟨rfl, he⟩ | ⟨rfl, rfl⟩
    case' inl => rw [← he]; clear he
    all_goals
      go_wp2_with fail
      refine (digits_any (w'.heap.size + 1) s r1 _ (by omega) hsb2 g2).mono ?_
      rintro e w3 ⟨r2, rfl, hr2, hsb3, hon3⟩
      have hsa4 := hsa3.only hon3 (by omega)
      have hbw3 := hbw2.trans (hon3.below (by omega))
      have hall3 := hall2.digits hr2
      have g3 := hr2.le
      have g4 := hr2.size
      have HR2 : Hid (IsRun digC s r1 r2) := hr2
      have HALL : Hid (AllN s p r2) := hall3
      have c3 := hsb3.pos
      have c4 := hsa4.pos
      have fz3 := hsb3.free
      clear hon3 hsa3 hbw2 hall2 hsb2 hr2 hall3
      by_cases hlt : r2 < s.size
      · by_cases hd : byteAt s r2 = 36
        · have hd' : (byteAt s r2 == 36) = true := by simp [hd]
          have HD : Hid (byteAt s r2 = 36) := hd
          have hne : ((r2 : Int) + 1 == (u : Int)) = false := by simp; omega
          clear hd
          go_wp2_with (first | (go_at_call 15; refine (done_no (w'.heap.size + 1) s r2 _ ?_ hlt).mono ?_; exact hsb3; rintro e w' ⟨rfl, rfl⟩) | (go_at_call 16; refine (peek_any (w'.heap.size + 1) s r2 _ ?_ hlt).mono ?_; exact hsb3; rintro e w' ⟨rfl, rfl⟩))
          go_roundg (s.size - (r2 + 1))
          case measure => rw [HK.out]; omega
          case rel => exact ⟨r2 + 1, rfl, by omega, by omega, HALL.out.dollar HD.out, Or.inr ⟨rfl, f2, rfl, HPRE.out⟩, hsb3.set (r2 + 1), hsa4.of_block (Deep.blk_setCell_other _ _ _ _ (by show w'.heap.size ≠ w'.heap.size + 1; omega)), ((hbw3.setCell (p := ⟨w'.heap.size + 1, 1, none⟩) (by show w'.heap.size ≤ w'.heap.size + 1; omega) _).drew).drew⟩
        · have hd' : (byteAt s r2 == 36) = false := by simp [hd]
          have HD : Hid (byteAt s r2 ≠ 36) := hd
          clear hd
          by_cases hru : r2 = u
          · have hr1u : r1 = r2 := by omega
            subst hr1u
            subst hru
            have hend : IsRun namC s p r1 := HALL.out.ends hpu hus HR1.out HR2.out (fun _ => HD.out)
            have hqu : r1 = q := run_unique hend HRUN.out
            subst hqu
            have hsz : ((nm.size : Int) == (r1 : Int) - (p : Int)) = true := by rw [HNS.out]; simp; omega
            have hnl : nm.size ≤ 1048576 := by rw [HNS.out]; omega
            clear hend HR1 HR2 HALL HRUN HNS HNM HK
            go_wp2_with (first | (go_at_call 15; refine (done_no (w'.heap.size + 1) s r1 _ ?_ hlt).mono ?_; exact hsb3; rintro e w' ⟨rfl, rfl⟩) | (go_at_call 16; refine (peek_any (w'.heap.size + 1) s r1 _ ?_ (by omega)).mono ?_; exact hsb3; rintro e w' ⟨rfl, rfl⟩) | (go_at_call 17; refine (hasp_any nm f2 _ hnl HPRE.out.1 HPRE.out.2).mono ?_; rintro e w' ⟨rfl, nd, rfl⟩))
            go_ret
            exact ⟨rfl, bel_drewN hbw3 _⟩
          · have hne : ((r2 : Int) == (u : Int)) = false := by simp; omega
            go_wp2_with (first | (go_at_call 15; refine (done_no (w'.heap.size + 1) s r2 _ ?_ hlt).mono ?_; exact hsb3; rintro e w' ⟨rfl, rfl⟩) | (go_at_call 16; refine (peek_any (w'.heap.size + 1) s r2 _ ?_ (by omega)).mono ?_; exact hsb3; rintro e w' ⟨rfl, rfl⟩))
            go_roundg (s.size - r2)
            case measure => rw [HK.out]; omega
            case rel => exact ⟨r2, rfl, by omega, by omega, HALL.out, Or.inr ⟨rfl, f2, rfl, HPRE.out⟩, hsb3, hsa4, hbw3.drew.drew⟩
      · by_cases hru : r2 = u
        · have hr1u : r1 = r2 := by omega
          subst hr1u
          subst hru
          have hend : IsRun namC s p r1 := HALL.out.ends hpu hus HR1.out HR2.out (fun h => absurd h hlt)
          have hqu : r1 = q := run_unique hend HRUN.out
          subst hqu
          have hsz : ((nm.size : Int) == (r1 : Int) - (p : Int)) = true := by rw [HNS.out]; simp; omega
          have hnl : nm.size ≤ 1048576 := by rw [HNS.out]; omega
          clear hend HR1 HR2 HALL HRUN HNS HNM HK
          go_wp2_with (first | (go_at_call 15; refine (done_yes (w'.heap.size + 1) s r1 _ ?_ (by omega)).mono ?_; exact hsb3; rintro e w' ⟨rfl, rfl⟩) | (go_at_call 16; refine (peek_any (w'.heap.size + 1) s r1 _ ?_ (by omega)).mono ?_; exact hsb3; rintro e w' ⟨rfl, rfl⟩) | (go_at_call 17; refine (hasp_any nm f2 _ hnl HPRE.out.1 HPRE.out.2).mono ?_; rintro e w' ⟨rfl, nd, rfl⟩))
          go_ret
          exact ⟨rfl, bel_drewN hbw3 _⟩
        · have hne : ((r2 : Int) == (u : Int)) = false := by simp; omega
          go_wp2_with (first | (go_at_call 15; refine (done_yes (w'.heap.size + 1) s r2 _ ?_ (by omega)).mono ?_; exact hsb3; rintro e w' ⟨rfl, rfl⟩) | (go_at_call 16; refine (peek_any (w'.heap.size + 1) s r2 _ ?_ (by omega)).mono ?_; exact hsb3; rintro e w' ⟨rfl, rfl⟩))
          go_roundg (s.size - r2)
          case measure => rw [HK.out]; omega
          case rel => exact ⟨r2, rfl, by omega, by omega, HALL.out, Or.inr ⟨rfl, f2, rfl, HPRE.out⟩, hsb3, hsa4, hbw3.drew⟩

end Go.Proofs.Qxb6003738a
