/-
  The plain mathematics: the list of edges that 'keyDependencies' makes, and its counts. Nothing of Go in it.
-/
namespace Go.Proofs.Qxb6004011a

/-- An edge: from, to, kind. -/
abbrev Edge := Int × Int × Int

/-- What one call of 'depend' appends. -/
def dep (f t k : Int) : List Edge := if 0 ≤ f ∧ 0 ≤ t then [(f, t, k)] else []

theorem dep_yes {f t k : Int} (h1 : 0 ≤ f) (h2 : 0 ≤ t) : dep f t k = [(f, t, k)] := if_pos ⟨h1, h2⟩
theorem dep_no {f t k : Int} (h : ¬ (0 ≤ f ∧ 0 ≤ t)) : dep f t k = [] := if_neg h
theorem dep_len (f t k : Int) : (dep f t k).length ≤ 1 := by unfold dep; split <;> simp

/-- The ww edges of the first k neighbouring pairs. -/
def wwE (ord : List Int) : Nat → List Edge
  | 0 => []
  | k + 1 => wwE ord k ++ dep (ord.getD k 0) (ord.getD (k + 1) 0) 0

/-- The wr edge of a read. -/
def wrD (ord : List Int) (t n : Int) : List Edge := if 0 < n then dep (ord.getD (n.toNat - 1) 0) t 1 else []
/-- The rw edge of a read. -/
def rwD (ord : List Int) (t n : Int) : List Edge := if n < ord.length then dep t (ord.getD n.toNat 0) 2 else []

/-- The edges of the first k reads. -/
def rdE (ord ts ns : List Int) : Nat → List Edge
  | 0 => []
  | k + 1 => rdE ord ts ns k ++ wrD ord (ts.getD k 0) (ns.getD k 0) ++ rwD ord (ts.getD k 0) (ns.getD k 0)

theorem wwE_len (ord : List Int) (k : Nat) : (wwE ord k).length ≤ k := by
  induction k with
  | zero => simp [wwE]
  | succ k ih => have := dep_len (ord.getD k 0) (ord.getD (k + 1) 0) 0; simp only [wwE, List.length_append]; omega

theorem wrD_len (ord : List Int) (t n : Int) : (wrD ord t n).length ≤ 1 := by
  unfold wrD; split
  · exact dep_len _ _ _
  · simp
theorem rwD_len (ord : List Int) (t n : Int) : (rwD ord t n).length ≤ 1 := by
  unfold rwD; split
  · exact dep_len _ _ _
  · simp
theorem rdE_len (ord ts ns : List Int) (k : Nat) : (rdE ord ts ns k).length ≤ 2 * k := by
  induction k with
  | zero => simp [rdE]
  | succ k ih =>
    have h1 := wrD_len ord (ts.getD k 0) (ns.getD k 0)
    have h2 := rwD_len ord (ts.getD k 0) (ns.getD k 0)
    simp only [rdE, List.length_append]; omega

/-- All edges. -/
def allE (ord ts ns : List Int) : List Edge := wwE ord (ord.length - 1) ++ rdE ord ts ns ts.length

/-- How many edges of a kind. -/
def cnt (q : Int) (E : List Edge) : Nat := (E.filter fun e => e.2.2 == q).length

theorem cnt_nil (q : Int) : cnt q [] = 0 := rfl
theorem cnt_append (q : Int) (A B : List Edge) : cnt q (A ++ B) = cnt q A + cnt q B := by simp [cnt]
theorem cnt_dep_ne (q f t k : Int) (h : k ≠ q) : cnt q (dep f t k) = 0 := by
  unfold dep; split
  · simp [cnt, h]
  · rfl
theorem cnt_dep_le (q f t k : Int) : cnt q (dep f t k) ≤ 1 := by
  unfold cnt; exact Nat.le_trans (List.length_filter_le _ _) (dep_len f t k)
theorem cnt_dep_eq (f t k : Int) (h1 : 0 ≤ f) (h2 : 0 ≤ t) : cnt k (dep f t k) = 1 := by simp [dep_yes h1 h2, cnt]

theorem cnt_wrD_ne (ord : List Int) (q t n : Int) (h : q ≠ 1) : cnt q (wrD ord t n) = 0 := by
  unfold wrD; split
  · exact cnt_dep_ne _ _ _ _ (fun e => h e.symm)
  · rfl
theorem cnt_rwD_ne (ord : List Int) (q t n : Int) (h : q ≠ 2) : cnt q (rwD ord t n) = 0 := by
  unfold rwD; split
  · exact cnt_dep_ne _ _ _ _ (fun e => h e.symm)
  · rfl
theorem cnt_wrD_le (ord : List Int) (t n : Int) : cnt 1 (wrD ord t n) ≤ if 0 < n then 1 else 0 := by
  unfold wrD; split
  · exact cnt_dep_le _ _ _ _
  · exact Nat.le_refl _
theorem cnt_rwD_le (ord : List Int) (t n : Int) : cnt 2 (rwD ord t n) ≤ if n < ord.length then 1 else 0 := by
  unfold rwD; split
  · exact cnt_dep_le _ _ _ _
  · exact Nat.le_refl _

/-- How many of the first k reads read something. -/
def inN (ns : List Int) : Nat → Nat
  | 0 => 0
  | k + 1 => inN ns k + if 0 < ns.getD k 0 then 1 else 0
/-- The reads that stop short, of the first k. -/
def shN (l : Nat) (ns : List Int) : Nat → Nat
  | 0 => 0
  | k + 1 => shN l ns k + if ns.getD k 0 < l then 1 else 0

theorem inN_le (ns : List Int) (k : Nat) : inN ns k ≤ k := by
  induction k with
  | zero => exact Nat.le_refl _
  | succ k ih => simp only [inN]; split <;> omega
theorem shN_le (l : Nat) (ns : List Int) (k : Nat) : shN l ns k ≤ k := by
  induction k with
  | zero => exact Nat.le_refl _
  | succ k ih => simp only [shN]; split <;> omega

/-- No number among the first k is negative. -/
def nonneg (zs : List Int) (k : Nat) : Prop := ∀ i, i < k → 0 ≤ zs.getD i 0

theorem cnt_ww (ord : List Int) (k : Nat) : cnt 0 (wwE ord k) ≤ k ∧ cnt 1 (wwE ord k) = 0 ∧ cnt 2 (wwE ord k) = 0 ∧ (nonneg ord (k + 1) → cnt 0 (wwE ord k) = k) := by
  induction k with
  | zero => exact ⟨Nat.le_refl _, rfl, rfl, fun _ => rfl⟩
  | succ k ih =>
    obtain ⟨h0, h1, h2, h3⟩ := ih
    have d0 := cnt_dep_le 0 (ord.getD k 0) (ord.getD (k + 1) 0) 0
    have d1 := cnt_dep_ne 1 (ord.getD k 0) (ord.getD (k + 1) 0) 0 (by decide)
    have d2 := cnt_dep_ne 2 (ord.getD k 0) (ord.getD (k + 1) 0) 0 (by decide)
    simp only [wwE, cnt_append]
    refine ⟨by omega, by omega, by omega, fun hn => ?_⟩
    rw [cnt_dep_eq _ _ _ (hn k (by omega)) (hn (k + 1) (by omega)), h3 (fun i hi => hn i (by omega))]

theorem cnt_rd (ord ts ns : List Int) (k : Nat) (hns : ∀ i, i < k → 0 ≤ ns.getD i 0 ∧ ns.getD i 0 ≤ ord.length) :
    cnt 0 (rdE ord ts ns k) = 0 ∧ cnt 1 (rdE ord ts ns k) ≤ inN ns k ∧ cnt 2 (rdE ord ts ns k) ≤ shN ord.length ns k ∧
    (nonneg ord ord.length → nonneg ts k → cnt 1 (rdE ord ts ns k) = inN ns k ∧ cnt 2 (rdE ord ts ns k) = shN ord.length ns k) := by
  induction k with
  | zero => exact ⟨rfl, Nat.le_refl _, Nat.le_refl _, fun _ _ => ⟨rfl, rfl⟩⟩
  | succ k ih =>
    obtain ⟨h0, h1, h2, h3⟩ := ih (fun i hi => hns i (by omega))
    obtain ⟨n1, n2⟩ := hns k (by omega)
    have a0 := cnt_wrD_ne ord 0 (ts.getD k 0) (ns.getD k 0) (by decide)
    have a2 := cnt_wrD_ne ord 2 (ts.getD k 0) (ns.getD k 0) (by decide)
    have b0 := cnt_rwD_ne ord 0 (ts.getD k 0) (ns.getD k 0) (by decide)
    have b1 := cnt_rwD_ne ord 1 (ts.getD k 0) (ns.getD k 0) (by decide)
    have a1 := cnt_wrD_le ord (ts.getD k 0) (ns.getD k 0)
    have b2 := cnt_rwD_le ord (ts.getD k 0) (ns.getD k 0)
    simp only [rdE, cnt_append, inN, shN]
    refine ⟨by omega, by omega, by omega, fun ho ht => ?_⟩
    obtain ⟨e1, e2⟩ := h3 ho (fun i hi => ht i (by omega))
    have htk := ht k (by omega)
    have c1 : cnt 1 (wrD ord (ts.getD k 0) (ns.getD k 0)) = if 0 < ns.getD k 0 then 1 else 0 := by
      unfold wrD; split
      · exact cnt_dep_eq _ _ _ (ho _ (by omega)) htk
      · rfl
    have c2 : cnt 2 (rwD ord (ts.getD k 0) (ns.getD k 0)) = if ns.getD k 0 < ord.length then 1 else 0 := by
      unfold rwD; split
      · exact cnt_dep_eq _ _ _ htk (ho _ (by omega))
      · rfl
    omega

/-- Every edge is between numbered transactions and of one of three kinds. -/
def Good (e : Edge) : Prop := 0 ≤ e.1 ∧ 0 ≤ e.2.1 ∧ (e.2.2 = 0 ∨ e.2.2 = 1 ∨ e.2.2 = 2)
theorem good_dep {f t k : Int} (hk : k = 0 ∨ k = 1 ∨ k = 2) : ∀ e ∈ dep f t k, Good e := by
  intro e he
  unfold dep at he; split at he
  · rename_i h; simp at he; subst he; exact ⟨h.1, h.2, hk⟩
  · simp at he
theorem good_ww (ord : List Int) (k : Nat) : ∀ e ∈ wwE ord k, Good e := by
  induction k with
  | zero => simp [wwE]
  | succ k ih =>
    intro e he
    rcases List.mem_append.1 he with h | h
    · exact ih e h
    · exact good_dep (Or.inl rfl) e h
theorem good_rd (ord ts ns : List Int) (k : Nat) : ∀ e ∈ rdE ord ts ns k, Good e := by
  induction k with
  | zero => simp [rdE]
  | succ k ih =>
    intro e he
    rcases List.mem_append.1 he with h | h
    · rcases List.mem_append.1 h with h | h
      · exact ih e h
      · unfold wrD at h; split at h
        · exact good_dep (Or.inr (Or.inl rfl)) e h
        · simp at h
    · unfold rwD at h; split at h
      · exact good_dep (Or.inr (Or.inr rfl)) e h
      · simp at h
theorem good_all (ord ts ns : List Int) : ∀ e ∈ allE ord ts ns, Good e := by
  intro e he
  rcases List.mem_append.1 he with h | h
  · exact good_ww _ _ e h
  · exact good_rd _ _ _ _ e h

theorem allE_len (ord ts ns : List Int) : (allE ord ts ns).length ≤ ord.length + 2 * ts.length := by
  have h1 := wwE_len ord (ord.length - 1)
  have h2 := rdE_len ord ts ns ts.length
  simp only [allE, List.length_append]; omega

/-- The law itself. -/
theorem counts (ord ts ns : List Int) (hns : ∀ i, i < ts.length → 0 ≤ ns.getD i 0 ∧ ns.getD i 0 ≤ ord.length) :
    cnt 0 (allE ord ts ns) ≤ ord.length - 1 ∧ cnt 1 (allE ord ts ns) ≤ inN ns ts.length ∧ cnt 2 (allE ord ts ns) ≤ shN ord.length ns ts.length ∧
    (nonneg ord ord.length → nonneg ts ts.length → cnt 0 (allE ord ts ns) = ord.length - 1 ∧ cnt 1 (allE ord ts ns) = inN ns ts.length ∧ cnt 2 (allE ord ts ns) = shN ord.length ns ts.length) := by
  obtain ⟨a0, a1, a2, a3⟩ := cnt_ww ord (ord.length - 1)
  obtain ⟨b0, b1, b2, b3⟩ := cnt_rd ord ts ns ts.length hns
  simp only [allE, cnt_append]
  refine ⟨by omega, by omega, by omega, fun ho ht => ?_⟩
  obtain ⟨e1, e2⟩ := b3 ho ht
  by_cases hl : ord.length = 0
  · exact ⟨by omega, by omega, by omega⟩
  · have := a3 (fun i hi => ho i (by omega))
    refine ⟨by omega, by omega, by omega⟩

end Go.Proofs.Qxb6004011a
