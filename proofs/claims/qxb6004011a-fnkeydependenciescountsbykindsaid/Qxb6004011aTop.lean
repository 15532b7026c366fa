/-
  The law's own walk.
-/
import Derived.Test.Qxb6004011aZZ
namespace Go.Proofs.Qxb6004011a
open Go.ChangeShapes Go.WideShapes Go.ChangeAt Go.RowKit
set_option linter.unusedVariables false

theorem IsRow.below {k : IntKind} {w w' : World} {a : Option Addr} {len cap : Nat} {zs : List Int} (h : IsRow k w a len cap zs) (hb : Below w.heap.size w w') : IsRow k w' a len cap zs := by
  rcases h with h | ⟨x, hx, h1, h2, h3, h4, h5⟩
  · exact Or.inl h
  · exact Or.inr ⟨x, hx, h1, h2, h3, fun i hi => (hb.cell (World.block_lt_of_cell? w _ (h4 i hi))).trans (h4 i hi), h5⟩

theorem IsRow.len_le {k : IntKind} {w : World} {a : Option Addr} {len cap : Nat} {zs : List Int} (h : IsRow k w a len cap zs) : len ≤ maxLen ∧ len ≤ zs.length := by
  rcases h with ⟨_, rfl, _, rfl⟩ | ⟨x, hx, h1, h2, h3, h4, h5⟩
  · exact ⟨Nat.zero_le _, Nat.zero_le _⟩
  · omega

theorem cnt_take_succ (q : Int) (E : List Edge) (j : Nat) (h : j < E.length) : cnt q (E.take (j + 1)) = cnt q (E.take j) + if (E.getD j (0, 0, 0)).2.2 = q then 1 else 0 := by
  rw [List.take_succ_eq_append_getElem h, cnt_append]
  congr 1
  simp only [List.getD, List.getElem?_eq_getElem h, Option.getD_some]
  by_cases e : E[j].2.2 = q
  · simp [cnt, e]
  · simp [cnt, e]

theorem cnt_take_le (q : Int) (E : List Edge) (j : Nat) : cnt q (E.take j) ≤ j := by
  unfold cnt
  have := List.length_filter_le (fun e : Edge => e.2.2 == q) (E.take j)
  have := List.length_take_le j E
  omega

/-- Is no number among the first k negative? -/
def nnB (zs : List Int) : Nat → Bool
  | 0 => true
  | k + 1 => nnB zs k && decide (0 ≤ zs.getD k 0)
theorem nnB_nonneg {zs : List Int} : ∀ {k : Nat}, nnB zs k = true → nonneg zs k
  | 0, _ => fun i hi => absurd hi (Nat.not_lt_zero _)
  | k + 1, h => by
    simp only [nnB, Bool.and_eq_true, decide_eq_true_eq] at h
    intro i hi
    by_cases e : i = k
    · subst e; exact h.2
    · exact nnB_nonneg h.1 i (by omega)
theorem nnB_yes {zs : List Int} {k : Nat} (h : 0 ≤ zs.getD k 0) : nnB zs (k + 1) = nnB zs k := by simp only [nnB, decide_eq_true h, Bool.and_true]
theorem nnB_no {zs : List Int} {k : Nat} (h : zs.getD k 0 < 0) : nnB zs (k + 1) = false := by simp only [nnB, decide_eq_false (show ¬ 0 ≤ zs.getD k 0 by omega), Bool.and_false]

theorem inN_yes {ns : List Int} {k : Nat} (h : 0 < ns.getD k 0) : inN ns (k + 1) = inN ns k + 1 := by simp only [inN, if_pos h]
theorem inN_no {ns : List Int} {k : Nat} (h : ¬ 0 < ns.getD k 0) : inN ns (k + 1) = inN ns k := by simp only [inN, if_neg h, Nat.add_zero]
theorem shN_yes {l : Nat} {ns : List Int} {k : Nat} (h : ns.getD k 0 < l) : shN l ns (k + 1) = shN l ns k + 1 := by simp only [shN, if_pos h]
theorem shN_no {l : Nat} {ns : List Int} {k : Nat} (h : ¬ ns.getD k 0 < l) : shN l ns (k + 1) = shN l ns k := by simp only [shN, if_neg h, Nat.add_zero]

set_option maxRecDepth 100000 in
/-- Two reads' lists of different lengths: nothing is asked. -/
theorem walk_short (a0 a1 a2 : Option Addr) (l0 c0 l1 c1 l2 c2 : Nat) (z0 z1 z2 : List Int) (w : World) (w0 : IsRow .i32 w a0 l0 c0 z0) (w1 : IsRow .i32 w a1 l1 c1 z1) (w2 : IsRow .i32 w a2 l2 c2 z2) (hne : l1 ≠ l2) :
    Calls Try.prog 4 #[.slice a0 l0 c0, .slice a1 l1 c1, .slice a2 l2 c2] w fun e w' => e = .returned (.bool true) ∧ Below w.heap.size w w' := by
  have m0 := w0.len_le.1
  have m1 := w1.len_le.1
  have m2 := w2.len_le.1
  go_enter Try.func4, Try.ntmps4
  go_wp2_with fail
  refine (zz_any a0 a1 a2 l0 c0 l1 c1 l2 c2 m0 m1 m2 _).mono ?_
  rintro e w' ⟨he, rfl⟩
  rcases he with rfl | rfl
  case inr =>
    go_wp2
    go_ret
    exact ⟨rfl, Below.refl _ _⟩
  go_wp2_with fail
  refine (kb_any a0 a1 a2 l0 c0 l1 c1 l2 c2 m0 m1 m2 _).mono ?_
  rintro e w' ⟨he, rfl⟩
  rcases he with rfl | rfl
  case inr =>
    go_wp2
    go_ret
    exact ⟨rfl, Below.refl _ _⟩
  go_wp2_with fail
  refine (kf_any a0 a1 a2 l0 c0 l1 c1 l2 c2 z2 m0 m1 m2 _ w2).mono ?_
  rintro e w' ⟨he, rfl⟩
  rcases he with ⟨rfl, hF⟩ | rfl
  · exact absurd hF.2.2.1 hne
  · go_wp2
    go_ret
    exact ⟨rfl, Below.refl _ _⟩

set_option maxRecDepth 100000 in
set_option maxHeartbeats 3200000 in
/-- The law at reads' lists of one length. -/
theorem walk_full (a0 a1 a2 : Option Addr) (c0 c1 c2 : Nat) (z0 z1 z2 ord ts ns : List Int) (w : World) (w0 : IsRow .i32 w a0 ord.length c0 z0) (w1 : IsRow .i32 w a1 ts.length c1 z1) (w2 : IsRow .i32 w a2 ts.length c2 z2)
    (t0 : Hid (z0.take ord.length = ord)) (t1 : Hid (z1.take ts.length = ts)) (t2 : Hid (z2.take ts.length = ns)) :
    Calls Try.prog 4 #[.slice a0 ord.length c0, .slice a1 ts.length c1, .slice a2 ts.length c2] w fun e w' => e = .returned (.bool true) ∧ Below w.heap.size w w' := by
  have m0 := w0.len_le.1
  have m1 := w1.len_le.1
  have m2 := w2.len_le.1
  go_enter Try.func4, Try.ntmps4
  go_wp2_with fail
  refine (zz_any a0 a1 a2 ord.length c0 ts.length c1 ts.length c2 m0 m1 m2 _).mono ?_
  rintro e w' ⟨he, rfl⟩
  rcases he with rfl | rfl
  case inr =>
    go_wp2
    go_ret
    exact ⟨rfl, Below.refl _ _⟩
  go_wp2_with fail
  refine (kb_any a0 a1 a2 ord.length c0 ts.length c1 ts.length c2 m0 m1 m2 _).mono ?_
  rintro e w' ⟨he, rfl⟩
  rcases he with rfl | rfl
  case inr =>
    go_wp2
    go_ret
    exact ⟨rfl, Below.refl _ _⟩
  go_wp2_with fail
  refine (kf_any a0 a1 a2 ord.length c0 ts.length c1 ts.length c2 z2 m0 m1 m2 _ w2).mono ?_
  rintro e w' ⟨he, rfl⟩
  rcases he with ⟨rfl, hF⟩ | rfl
  case inr =>
    go_wp2
    go_ret
    exact ⟨rfl, Below.refl _ _⟩
  obtain ⟨ho, ht, _, hz2⟩ := hF
  have hns0 : ∀ i, i < ts.length → 0 ≤ ns.getD i 0 ∧ ns.getD i 0 ≤ ord.length := by
    intro i hi
    have := hz2 i hi
    rw [← t2.out]
    simpa [List.getD, List.getElem?_take, hi] using this
  have HNS : Hid (∀ i, i < ts.length → 0 ≤ ns.getD i 0 ∧ ns.getD i 0 ≤ ord.length) := hns0
  clear hns0 hz2
  go_wp2_with fail
  refine (clone_any a0 ord.length c0 z0 _ (by omega) w0).mono ?_
  rintro e wa ⟨b0, rfl, v0, hba⟩
  have w1a := w1.below hba
  have w2a := w2.below hba
  clear w0 w1 w2
  go_wp2_with fail
  refine (clone_any a1 ts.length c1 z1 _ (by omega) w1a).mono ?_
  rintro e wb ⟨b1, rfl, v1, hbb⟩
  have v0b := v0.below hbb
  have w2b := w2a.below hbb
  have hb1 : Below w'.heap.size w' wb := hba.trans (hbb.mono hba.size)
  clear v0 w1a w2a hba hbb
  go_wp2_with fail
  refine (clone_any a2 ts.length c2 z2 _ (by omega) w2b).mono ?_
  rintro e wc ⟨b2, rfl, v2, hbc⟩
  have v0c := v0b.below hbc
  have v1c := v1.below hbc
  have hb2 : Below w'.heap.size w' wc := hb1.trans (hbc.mono hb1.size)
  rw [t0.out] at v0c
  rw [t1.out] at v1c
  rw [t2.out] at v2
  clear v0b v1 hbc hb1 w2b
  go_wp2_with fail
  refine (zz_all b0 b1 b2 ord ts ns _ ho ht HNS.out v0c v1c v2).mono ?_
  rintro e wd ⟨d1, d2, d3, rfl, q1, q2, q3, hbd⟩
  have v0d := v0c.below hbd
  have v1d := v1c.below hbd
  have v2d := v2.below hbd
  have hb3 : Below w'.heap.size w' wd := hb2.trans (hbd.mono hb2.size)
  clear v0c v1c v2 hb2 hbd
  have hcounts := counts ord ts ns HNS.out
  have hgood := good_all ord ts ns
  have hEl := allE_len ord ts ns
  obtain ⟨E, hE⟩ : ∃ E, E = allE ord ts ns := ⟨_, rfl⟩
  rw [← hE] at q1 q2 q3 hcounts hgood hEl ⊢
  obtain ⟨n, hn⟩ : ∃ n, n = E.length := ⟨_, rfl⟩
  rw [← hn] at q1 q2 q3 hEl ⊢
  have HN : Hid (n = E.length) := hn
  have HC : Hid (cnt 0 E ≤ ord.length - 1 ∧ cnt 1 E ≤ inN ns ts.length ∧ cnt 2 E ≤ shN ord.length ns ts.length ∧
    (nonneg ord ord.length → nonneg ts ts.length → cnt 0 E = ord.length - 1 ∧ cnt 1 E = inN ns ts.length ∧ cnt 2 E = shN ord.length ns ts.length)) := hcounts
  have HG : Hid (∀ e ∈ E, Good e) := hgood
  have Q1 : Hid (wd.rowIs d1 21 n (fun i => .int .i32 (E.getD i (0, 0, 0)).1)) := q1
  have Q2 : Hid (wd.rowIs d2 21 n (fun i => .int .i32 (E.getD i (0, 0, 0)).2.1)) := q2
  have Q3 : Hid (wd.rowIs d3 5 n (fun i => .int .u8 (E.getD i (0, 0, 0)).2.2)) := q3
  clear hcounts hgood q1 q2 q3 hn hE m0 m1 m2
  go_wp2
  go_loop [10, 11, 12, 13] (fun a b c i => ∃ j : Nat, j ≤ n ∧ i = .int .i64 j ∧ a = .int .i64 (cnt 0 (E.take j)) ∧ b = .int .i64 (cnt 1 (E.take j)) ∧ c = .int .i64 (cnt 2 (E.take j))) (fun _ _ _ i => n - (intOf i).toNat)
  case atStart => exact ⟨0, Nat.zero_le _, rfl, rfl, rfl, rfl⟩
  case round =>
    obtain ⟨j, hj, rfl, rfl, rfl, rfl⟩ := hrel
    have k0 := cnt_take_le 0 E j
    have k1 := cnt_take_le 1 E j
    have k2 := cnt_take_le 2 E j
    by_cases hjn : j < n
    · have hjE : j < E.length := by rw [← HN.out]; exact hjn
      have s0 := cnt_take_succ 0 E j hjE
      have s1 := cnt_take_succ 1 E j hjE
      have s2 := cnt_take_succ 2 E j hjE
      have cf := Q1.out.cell hjn
      have ct := Q2.out.cell hjn
      have ck := Q3.out.cell hjn
      have hg := HG.out (E.getD j (0, 0, 0)) (by simp [List.getD, hjE])
      obtain ⟨x, y, z, hxyz⟩ : ∃ x y z, E.getD j (0, 0, 0) = (x, y, z) := ⟨_, _, _, rfl⟩
      rw [hxyz] at cf ct ck hg s0 s1 s2
      obtain ⟨g0, g1, g2⟩ := hg
      have S0 : Hid (cnt 0 (E.take (j + 1)) = cnt 0 (E.take j) + if z = 0 then 1 else 0) := s0
      have S1 : Hid (cnt 1 (E.take (j + 1)) = cnt 1 (E.take j) + if z = 1 then 1 else 0) := s1
      have S2 : Hid (cnt 2 (E.take (j + 1)) = cnt 2 (E.take j) + if z = 2 then 1 else 0) := s2
      simp only at g0 g1 g2 cf ct ck
      clear s0 s1 s2 hxyz HN HC HG Q1 Q2 Q3 v0d v1d v2d
      rcases g2 with rfl | rfl | rfl
      · go_wp2
        go_round
        case rel => exact ⟨j + 1, by omega, by go_num, by rw [S0.out]; rfl, by rw [S1.out]; rfl, by rw [S2.out]; rfl⟩
        case measure => simp [intOf]; omega
      · go_wp2
        go_round
        case rel => exact ⟨j + 1, by omega, by go_num, by rw [S0.out]; rfl, by rw [S1.out]; rfl, by rw [S2.out]; rfl⟩
        case measure => simp [intOf]; omega
      · go_wp2
        go_round
        case rel => exact ⟨j + 1, by omega, by go_num, by rw [S0.out]; rfl, by rw [S1.out]; rfl, by rw [S2.out]; rfl⟩
        case measure => simp [intOf]; omega
    · have hjn' : j = n := by omega
      subst hjn'
      have hall : E.take j = E := List.take_of_length_le (by rw [← HN.out]; exact Nat.le_refl _)
      rw [hall] at k0 k1 k2 ⊢
      obtain ⟨A, hA⟩ : ∃ A, A = cnt 0 E := ⟨_, rfl⟩
      obtain ⟨B, hB⟩ : ∃ A, A = cnt 1 E := ⟨_, rfl⟩
      obtain ⟨C, hC⟩ : ∃ A, A = cnt 2 E := ⟨_, rfl⟩
      rw [← hA] at k0 HC ⊢
      rw [← hB] at k1 HC ⊢
      rw [← hC] at k2 HC ⊢
      clear hA hB hC hall HN HG Q1 Q2 Q3
      by_cases hl0 : 0 < ord.length
      all_goals
        go_wp2
        go_loop [16, 17, 18, 19] (fun a b c i => ∃ m : Nat, m ≤ ts.length ∧ i = .int .i64 m ∧ a = .int .i64 (inN ns m) ∧ b = .int .i64 (shN ord.length ns m) ∧ c = .bool (nnB ts m)) (fun _ _ _ i => ts.length - (intOf i).toNat)
        case atStart => exact ⟨0, Nat.zero_le _, rfl, rfl, rfl, rfl⟩
        case round =>
          obtain ⟨m, hm, rfl, rfl, rfl, rfl⟩ := hrel
          have i1 := inN_le ns m
          have i2 := shN_le ord.length ns m
          by_cases hmt : m < ts.length
          · obtain ⟨g1, o1, rfl, hl1, hc1, hbd1⟩ := v1d.at (by omega)
            obtain ⟨g2, o2, rfl, hl2, hc2, hbd2⟩ := v2d.at (by omega)
            have cx := hc1 m (by omega)
            have cy := hc2 m (by omega)
            obtain ⟨hy1, hy2⟩ := HNS.out m hmt
            obtain ⟨hx1, hx2⟩ := hbd1 m
            have I1 : Hid (0 < ns.getD m 0 → inN ns (m + 1) = inN ns m + 1) := inN_yes
            have I2 : Hid (¬ 0 < ns.getD m 0 → inN ns (m + 1) = inN ns m) := inN_no
            have I3 : Hid (ns.getD m 0 < ord.length → shN ord.length ns (m + 1) = shN ord.length ns m + 1) := shN_yes
            have I4 : Hid (¬ ns.getD m 0 < ord.length → shN ord.length ns (m + 1) = shN ord.length ns m) := shN_no
            have I5 : Hid (0 ≤ ts.getD m 0 → nnB ts (m + 1) = nnB ts m) := nnB_yes
            have I6 : Hid (ts.getD m 0 < 0 → nnB ts (m + 1) = false) := nnB_no
            obtain ⟨x, hx⟩ : ∃ x, x = ts.getD m 0 := ⟨_, rfl⟩
            obtain ⟨y, hy⟩ : ∃ x, x = ns.getD m 0 := ⟨_, rfl⟩
            rw [← hx] at cx hx1 hx2 I5 I6
            rw [← hy] at cy hy1 hy2 I1 I2 I3 I4
            clear hx hy hc1 hc2 hbd1 hbd2 v0d v1d v2d HNS HC
            by_cases t1 : 0 < y
            · by_cases t2 : y < ord.length
              · by_cases t3 : x < 0
                · go_wp2
                  go_round
                  case rel => exact ⟨m + 1, by omega, by go_num, by rw [I1.out t1]; rfl, by rw [I3.out t2]; rfl, by rw [I6.out t3]⟩
                  case measure => simp [intOf]; omega
                · go_wp2
                  go_round
                  case rel => exact ⟨m + 1, by omega, by go_num, by rw [I1.out t1]; rfl, by rw [I3.out t2]; rfl, by rw [I5.out (by omega)]⟩
                  case measure => simp [intOf]; omega
              · by_cases t3 : x < 0
                · go_wp2
                  go_round
                  case rel => exact ⟨m + 1, by omega, by go_num, by rw [I1.out t1]; rfl, by rw [I4.out t2], by rw [I6.out t3]⟩
                  case measure => simp [intOf]; omega
                · go_wp2
                  go_round
                  case rel => exact ⟨m + 1, by omega, by go_num, by rw [I1.out t1]; rfl, by rw [I4.out t2], by rw [I5.out (by omega)]⟩
                  case measure => simp [intOf]; omega
            · by_cases t2 : y < ord.length
              · by_cases t3 : x < 0
                · go_wp2
                  go_round
                  case rel => exact ⟨m + 1, by omega, by go_num, by rw [I2.out t1], by rw [I3.out t2]; rfl, by rw [I6.out t3]⟩
                  case measure => simp [intOf]; omega
                · go_wp2
                  go_round
                  case rel => exact ⟨m + 1, by omega, by go_num, by rw [I2.out t1], by rw [I3.out t2]; rfl, by rw [I5.out (by omega)]⟩
                  case measure => simp [intOf]; omega
              · by_cases t3 : x < 0
                · go_wp2
                  go_round
                  case rel => exact ⟨m + 1, by omega, by go_num, by rw [I2.out t1], by rw [I4.out t2], by rw [I6.out t3]⟩
                  case measure => simp [intOf]; omega
                · go_wp2
                  go_round
                  case rel => exact ⟨m + 1, by omega, by go_num, by rw [I2.out t1], by rw [I4.out t2], by rw [I5.out (by omega)]⟩
                  case measure => simp [intOf]; omega
          · have hmt' : m = ts.length := by omega
            subst hmt'
            obtain ⟨R1, hR1⟩ : ∃ A, A = inN ns ts.length := ⟨_, rfl⟩
            obtain ⟨R2, hR2⟩ : ∃ A, A = shN ord.length ns ts.length := ⟨_, rfl⟩
            rw [← hR1] at i1 HC ⊢
            rw [← hR2] at i2 HC ⊢
            clear hR1 hR2 v1d v2d HNS
            go_wp2
            go_loop [18, 20] (fun c i => ∃ m : Nat, m ≤ ord.length ∧ i = .int .i64 m ∧ c = .bool (nnB ts ts.length && nnB ord m)) (fun _ i => ord.length - (intOf i).toNat)
            case atStart => exact ⟨0, Nat.zero_le _, rfl, by simp [nnB]⟩
            case round =>
              obtain ⟨m, hm2, rfl, rfl⟩ := hrel
              by_cases hmo : m < ord.length
              · obtain ⟨g0, o0, rfl, hlz, hc0, hbd0⟩ := v0d.at (by omega)
                have cx := hc0 m (by omega)
                obtain ⟨hx1, hx2⟩ := hbd0 m
                have I5 : Hid (0 ≤ ord.getD m 0 → nnB ord (m + 1) = nnB ord m) := nnB_yes
                have I6 : Hid (ord.getD m 0 < 0 → nnB ord (m + 1) = false) := nnB_no
                obtain ⟨x, hx⟩ : ∃ x, x = ord.getD m 0 := ⟨_, rfl⟩
                rw [← hx] at cx hx1 hx2 I5 I6
                clear hx hc0 hbd0 v0d HC
                by_cases t3 : x < 0
                · go_wp2
                  go_round
                  case rel => exact ⟨m + 1, by omega, by go_num, by rw [I6.out t3, Bool.and_false]⟩
                  case measure => simp [intOf]; omega
                · go_wp2
                  go_round
                  case rel => exact ⟨m + 1, by omega, by go_num, by rw [I5.out (by omega)]⟩
                  case measure => simp [intOf]; omega
              · have hmo' : m = ord.length := by omega
                subst hmo'
                obtain ⟨y0, y1, y2, y3⟩ := HC.out
                have Y3 : Hid ((nnB ts ts.length && nnB ord ord.length) = true → A = ord.length - 1 ∧ B = R1 ∧ C = R2) := fun h => by
                  rw [Bool.and_eq_true] at h
                  exact y3 (nnB_nonneg h.2) (nnB_nonneg h.1)
                obtain ⟨bb, hbb⟩ : ∃ b, b = (nnB ts ts.length && nnB ord ord.length) := ⟨_, rfl⟩
                rw [← hbb] at Y3 ⊢
                clear hbb y3 HC v0d
                cases bb with
                | true =>
                  obtain ⟨e1, e2, e3⟩ := Y3.out rfl
                  have x1 : ord.length - 1 ≤ A := by omega
                  have x2 : R1 ≤ B := by omega
                  have x3 : R2 ≤ C := by omega
                  clear e1 e2 e3 Y3
                  go_wp2
                  go_ret
                  exact ⟨rfl, hb3⟩
                | false =>
                  clear Y3
                  go_wp2
                  go_ret
                  exact ⟨rfl, hb3⟩

end Go.Proofs.Qxb6004011a
