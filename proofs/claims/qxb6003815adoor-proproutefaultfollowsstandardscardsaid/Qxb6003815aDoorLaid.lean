/-
  What the listed variables give the walk; the arguments opened.
-/
import Derived.Test.Qxb6003815aDoorModel2
import Derived.ProofKit
import Derived.LaidMore
import Derived.OpenShut
import Derived.Stop.Joined
import Derived.Deep.Slices
namespace Go.Proofs.Qxb6003815aDoor
open Go.ChangeShapes Go.WideShapes Go.ChangeAt Go.RowKit
set_option linter.unusedVariables false

theorem gZ4 : Tryd.prog.globalNamed "net/netip.z4" = some 0 := by kernel_rfl
theorem gZ6 : Tryd.prog.globalNamed "net/netip.z6noz" = some 1 := by kernel_rfl
theorem gKinds : Tryd.prog.globalNamed "example.com/weftwire/weftwire/wire.evpnKinds" = some 2 := by kernel_rfl
theorem tZ4 : (Tryd.prog.globals[0]?).map (·.type) = some 39 := by kernel_rfl
theorem tZ6 : (Tryd.prog.globals[1]?).map (·.type) = some 39 := by kernel_rfl
theorem tKinds : (Tryd.prog.globals[2]?).map (·.type) = some 89 := by kernel_rfl
theorem c4 : Tryd.prog.cellsOf 4 = 1 := by kernel_rfl
theorem c5 : Tryd.prog.cellsOf 5 = 1 := by kernel_rfl
theorem c37 : Tryd.prog.cellsOf 37 = 1 := by kernel_rfl
theorem c39 : Tryd.prog.cellsOf 39 = 1 := by kernel_rfl
theorem c49 : Tryd.prog.cellsOf 49 = 8 := by kernel_rfl
theorem c79 : Tryd.prog.cellsOf 79 = 1 := by kernel_rfl
theorem c89 : Tryd.prog.cellsOf 89 = 5 := by kernel_rfl
theorem c110 : Tryd.prog.cellsOf 110 = 2 := by kernel_rfl

section
variable {H : Type} {enc : TypeId × Value → H} {W : World} {base : Nat} {spare : Nat → Bool} {held : Bool}

set_option maxRecDepth 100000 in
/-- A handle of package 'unique': one pointer to a struct that begins with a bool. -/
theorem open_handle {fuel : Nat} {cs : List Value} {b : Bool} {s : List UInt8} {p : List MemPlace}
    (h : DataW.trod enc Tryd.prog W base spare held fuel 39 cs = some (.agg [.ptr (.agg [.lit (.bool b), .lit (.string s)])], p)) :
    ∃ a : Addr, cs = [.pointer (some a)] ∧ W.cell? a = some (.bool b) ∧ MemPlace.cell a.block a.off ∈ p := by
  obtain ⟨xs, n, _, hx, hl, hn, hf⟩ := DataW.trod_struct Tryd.underlying39 h
  have h0 : DataW.trod enc Tryd.prog W base spare held n 37 ((cs.drop 0).take (Tryd.prog.cellsOf 37)) = xs[0]? := hf 0 _ rfl
  rw [c37] at h0
  rw [c39] at hl
  match cs, hl with
  | [c], _ =>
    match xs, hn, hx, h0 with
    | [x0], _, hx, h0 =>
      simp only [List.map_cons, List.map_nil, List.flatMap_cons, List.flatMap_nil, Prod.mk.injEq, DataW.agg.injEq, List.cons.injEq, and_true, List.append_nil] at hx
      obtain ⟨hx1, rfl⟩ := hx
      simp only [List.drop_zero, List.getElem?_cons_zero] at h0
      rcases DataW.trod_pointer Tryd.underlying37 (show DataW.trod enc Tryd.prog W base spare held n 37 [c] = some x0 from h0) with ⟨_, rfl⟩ | ⟨a, cs', y, m, _, hc, rfl, hcs', hd⟩
      · simp at hx1
      · simp only [List.cons.injEq, and_true] at hc
        subst hc
        simp only [DataW.ptr.injEq] at hx1
        rw [c110] at hcs'
        obtain ⟨_, hl2, hcell⟩ := World.cells?_some hcs'
        obtain ⟨ys, m2, _, hy, _, hn2, hf2⟩ := DataW.trod_struct Tryd.underlying110 hd
        have k0 : DataW.trod enc Tryd.prog W base spare held m2 4 ((cs'.drop 0).take (Tryd.prog.cellsOf 4)) = ys[0]? := hf2 0 _ rfl
        rw [c4] at k0
        match cs', hl2, hcell with
        | [u0, u1], _, hcell =>
          match ys, hn2, hy, k0 with
          | [y0, y1], _, hy, k0 =>
            obtain ⟨b', e1, e2⟩ := DataW.trod_bool Tryd.underlying4 (show DataW.trod enc Tryd.prog W base spare held m2 4 [u0] = some y0 from k0)
            simp only [List.cons.injEq, and_true] at e1
            subst e1
            rw [hy, e2] at hx1
            simp only [List.map_cons, List.map_nil, DataW.agg.injEq, List.cons.injEq, DataW.lit.injEq, Lit.bool.injEq] at hx1
            refine ⟨a, rfl, ?_, ?_⟩
            · have := hcell 0 (by omega)
              rw [hx1.1]
              simpa [Addr.add] using this
            · refine List.mem_append_left _ ?_
              rw [c110]
              simp [MemPlace.row]
end

set_option maxRecDepth 100000 in
/-- WHAT THE CONDITION GIVES THE WALKS. -/
theorem of_laid {W : World} (h : laidMetH Tryd.prog Rows.propRouteFaultFollowsStandardsRow.laid W) : ∃ a4 a6, Glob a4 a6 W := by
  have h : laidMetH Tryd.prog [("net/netip.z4", Rows.laid_net_netip_z4), ("net/netip.z6noz", Rows.laid_net_netip_z6noz), ("example.com/weftwire/weftwire/wire.evpnKinds", Rows.laid_example_com_weftwire_weftwire_wire_evpnKinds)] W := h
  rw [MakeChecks.laidMetH_plain _ _ _ (by kernel_rfl)] at h
  obtain ⟨ps, ⟨g0, t0, cs0, f0, p0, q0, hg0, ht0, hv0, hd0, ⟨g1, t1, cs1, f1, p1, q1, hg1, ht1, hv1, hd1, ⟨g2, t2, cs2, f2, p2, q2, hg2, ht2, hv2, hd2, hq2, rfl⟩, rfl⟩, rfl⟩, _, hfz⟩ := h
  obtain rfl := Option.some.inj (gZ4.symm.trans hg0)
  obtain rfl := Option.some.inj (gZ6.symm.trans hg1)
  obtain rfl := Option.some.inj (gKinds.symm.trans hg2)
  obtain rfl := Option.some.inj (tZ4.symm.trans ht0)
  obtain rfl := Option.some.inj (tZ6.symm.trans ht1)
  obtain rfl := Option.some.inj (tKinds.symm.trans ht2)
  obtain ⟨a4, hc4, hb4, hm4⟩ := open_handle hd0
  obtain ⟨a6, hc6, hb6, hm6⟩ := open_handle hd1
  have v0 := World.var?_cell hg0 hv0
  have v1 := World.var?_cell hg1 hv1
  have v2 := World.var?_cell hg2 hv2
  rw [Array.eq_one_of_toList hc4] at v0
  rw [Array.eq_one_of_toList hc6] at v1
  obtain ⟨xs, m, _, hx, hl, hn, hel⟩ := DataW.trod_array Tryd.underlying89 hd2
  rw [c89] at hl
  obtain ⟨l2⟩ := cs2
  have hl' : l2.length = 5 := hl
  have hk : Kinds W := by
    intro i hi
    rw [v2 i]
    have hi' := hel i hi
    rw [c79, Nat.mul_one] at hi'
    match l2, hl, xs, hn, hx, hi' with
    | [u0, u1, u2, u3, u4], _, [x0, x1, x2, x3, x4], _, hx, hi' =>
      simp only [Rows.laid_example_com_weftwire_weftwire_wire_evpnKinds, List.map_cons, List.map_nil, Prod.mk.injEq, DataW.agg.injEq, List.cons.injEq, and_true] at hx
      obtain ⟨⟨y0, y1, y2, y3, y4⟩, _⟩ := hx
      rcases (show i = 0 ∨ i = 1 ∨ i = 2 ∨ i = 3 ∨ i = 4 by omega) with rfl | rfl | rfl | rfl | rfl
      · obtain ⟨k, e1, e2, _⟩ := DataW.trod_int Tryd.underlying79 (show DataW.trod _ Tryd.prog W 0 _ false m 79 [u0] = some x0 from hi')
        rw [e2] at y0; simp_all
      · obtain ⟨k, e1, e2, _⟩ := DataW.trod_int Tryd.underlying79 (show DataW.trod _ Tryd.prog W 0 _ false m 79 [u1] = some x1 from hi')
        rw [e2] at y1; simp_all
      · obtain ⟨k, e1, e2, _⟩ := DataW.trod_int Tryd.underlying79 (show DataW.trod _ Tryd.prog W 0 _ false m 79 [u2] = some x2 from hi')
        rw [e2] at y2; simp_all
      · obtain ⟨k, e1, e2, _⟩ := DataW.trod_int Tryd.underlying79 (show DataW.trod _ Tryd.prog W 0 _ false m 79 [u3] = some x3 from hi')
        rw [e2] at y3; simp_all
      · obtain ⟨k, e1, e2, _⟩ := DataW.trod_int Tryd.underlying79 (show DataW.trod _ Tryd.prog W 0 _ false m 79 [u4] = some x4 from hi')
        rw [e2] at y4; simp_all
  have z4 : W.cell? ⟨0, 0, none⟩ = some (.pointer (some a4)) := by rw [v0 0]; rfl
  have z6 : W.cell? ⟨1, 0, none⟩ = some (.pointer (some a6)) := by rw [v1 0]; rfl
  have s4 : a4.spot = none := by
    unfold World.cell? at hb4
    split at hb4
    · cases hs : a4.spot with
      | none => rfl
      | some x => simp [hs] at hb4
    · simp at hb4
  have hb4' : W.cell? ⟨a4.block, a4.off, none⟩ = some (.bool false) := by rw [← s4]; exact hb4
  refine ⟨a4, a6, z4, z6, hk, fun e => ?_, (hfz a4.block a4.off ?_).1, (hfz a6.block a6.off ?_).1, ?_⟩
  · rw [e, hb6] at hb4
    simp at hb4
  · simp [hm4]
  · simp [hm6]
  · have hlt := World.block_lt_of_cell? W _ hb4
    by_cases h3 : 2 < a4.block
    · exact Nat.lt_of_le_of_lt h3 hlt
    · exfalso
      rcases (show a4.block = 0 ∨ a4.block = 1 ∨ a4.block = 2 by omega) with e | e | e
      · rw [e, v0] at hb4'
        rcases Nat.eq_zero_or_pos a4.off with e0 | e0
        · rw [e0] at hb4'; simp at hb4'
        · rw [Array.getElem?_eq_none (by simp; omega)] at hb4'; simp at hb4'
      · rw [e, v1] at hb4'
        rcases Nat.eq_zero_or_pos a4.off with e0 | e0
        · rw [e0] at hb4'; simp at hb4'
        · rw [Array.getElem?_eq_none (by simp; omega)] at hb4'; simp at hb4'
      · rw [e] at hb4'
        by_cases e5 : a4.off < 5
        · rw [hk _ e5] at hb4'; simp at hb4'
        · rw [v2, Array.getElem?_eq_none (by simp; omega)] at hb4'; simp at hb4'

/-! ### The arguments -/
theorem spot_of_cell {W : World} {a : Addr} {v : Value} (h : W.cell? a = some v) : a.spot = none := by
  unfold World.cell? at h
  split at h
  · cases hs : a.spot with
    | none => rfl
    | some x => simp [hs] at h
  · simp at h

theorem u8_bounds {n : Int} (h : (Lit.int .u8 n).wf = true) : 0 ≤ n ∧ n ≤ 255 := by
  simp [Lit.wf, IntKind.min, IntKind.max, IntKind.signed, IntKind.bits] at h
  omega

theorem ints_of : ∀ cs : List Value, (∀ c ∈ cs, ∃ z, c = .int .u8 z ∧ 0 ≤ z ∧ z ≤ 255) → ∃ zs : List Int, zs.length = cs.length ∧ cs = zs.map (Value.int .u8) ∧ ∀ z ∈ zs, 0 ≤ z ∧ z ≤ 255
  | [], _ => ⟨[], rfl, rfl, fun _ h => absurd h (List.not_mem_nil)⟩
  | c :: cs, h => by
    obtain ⟨z, e, hz⟩ := h c (List.mem_cons_self ..)
    obtain ⟨zs, hl, e2, hb⟩ := ints_of cs (fun x hx => h x (List.mem_cons_of_mem _ hx))
    refine ⟨z :: zs, by simp [hl], by simp [e, ← e2], fun y hy => ?_⟩
    rcases List.mem_cons.1 hy with rfl | hy
    · exact hz
    · exact hb y hy

section
variable {H : Type} {enc : TypeId × Value → H} {W : World} {base : Nat} {spare : Nat → Bool} {held : Bool}

/-- The cells of an array of bytes. -/
theorem cells_bytes {t : TypeId} {n fuel : Nat} {cs : List Value} {x : DataW H × List MemPlace} (ht : Tryd.prog.underlying t = some (.array n 5)) (hct : Tryd.prog.cellsOf t = n)
    (h : DataW.trod enc Tryd.prog W base spare held fuel t cs = some x) : ∃ zs : List Int, zs.length = n ∧ cs = zs.map (Value.int .u8) ∧ ∀ z ∈ zs, 0 ≤ z ∧ z ≤ 255 := by
  obtain ⟨xs, m, _, hx, hl, hn, hel⟩ := DataW.trod_array ht h
  rw [hct] at hl
  obtain ⟨zs, h1, h2, h3⟩ := ints_of cs (fun c hc => by
    obtain ⟨i, hi, rfl⟩ := List.getElem_of_mem hc
    have k := hel i (by omega)
    rw [c5, Nat.mul_one] at k
    have e : (cs.drop i).take 1 = [cs[i]] := by
      rw [List.drop_eq_getElem_cons hi]; rfl
    rw [e, List.getElem?_eq_getElem (by omega)] at k
    obtain ⟨z, e1, _, hw⟩ := DataW.trod_int Tryd.underlying5 k
    exact ⟨z, by simpa using e1, u8_bounds hw⟩)
  exact ⟨zs, by omega, h2, h3⟩

set_option maxRecDepth 100000 in
/-- An array of bytes, as an argument. -/
theorem open_bytes {r : Reach} {b0 n : Nat} {t : TypeId} {v : Value} {d : DataW H} {ps : List MemPlace} (ht : Tryd.prog.underlying t = some (.array n 5)) (hct : Tryd.prog.cellsOf t = n)
    (hval : Value.okWide Tryd.prog W r b0 t v) (hd : DataW.Trod enc Tryd.prog W base spare held t v d ps) :
    ∃ zs : List Int, zs.length = n ∧ v = .agg (List.toArray (zs.map (Value.int .u8))) ∧ ∀ z ∈ zs, 0 ≤ z ∧ z ≤ 255 := by
  unfold Value.okWide at hval
  rw [ht] at hval
  obtain ⟨cs, rfl, _, _⟩ := hval
  obtain ⟨fuel, hf⟩ := hd
  obtain ⟨zs, h1, h2, h3⟩ := cells_bytes ht hct hf
  refine ⟨zs, h1, ?_, h3⟩
  rw [← h2]
  simp [Value.cells]

set_option maxRecDepth 100000 in
/-- The communities, as an argument. -/
theorem open_coms {ad : Option Addr} {n cap : Nat} {d : DataW H} {ps : List MemPlace} (hd : DataW.Trod enc Tryd.prog W base (fun _ => true) held 27 (.slice ad n cap) d ps) :
    n ≤ maxLen ∧ ∃ zs : List Int, Com ad n zs W ∧ ∀ i j, 0 ≤ cB zs i j ∧ cB zs i j ≤ 255 := by
  obtain ⟨fuel, hf⟩ := hd
  rcases Deep.open_slice Tryd.underlying27 hf with ⟨hcs, _⟩ | ⟨a, len, c, m, k, Dd, Pl, hcs, _, hl, hm, hmm, _, hel⟩
  · simp [Value.cells] at hcs
    obtain ⟨rfl, rfl, rfl⟩ := hcs
    exact ⟨Nat.zero_le _, [], fun h => absurd h (Nat.lt_irrefl _), fun i j => by simp [cB]⟩
  · simp [Value.cells] at hcs
    obtain ⟨rfl, rfl, rfl⟩ := hcs
    simp only [if_true] at hmm
    subst hmm
    refine ⟨Nat.le_trans hl hm, ?_⟩
    rw [c49] at hel
    have key : ∀ i j, i < n → j < 8 → ∃ z, W.cell? (a.add (i * 8 + j)) = some (.int .u8 z) ∧ 0 ≤ z ∧ z ≤ 255 := by
      intro i j hi hj
      obtain ⟨cs', h1, h2⟩ := hel i (by omega)
      obtain ⟨zs, e1, e2, e3⟩ := cells_bytes Tryd.underlying49 c49 h2
      obtain ⟨_, _, hc⟩ := World.cells?_some h1
      have := hc j hj
      rw [e2, List.getElem?_map, List.getElem?_eq_getElem (by omega)] at this
      refine ⟨zs[j], ?_, e3 _ (List.getElem_mem _)⟩
      rw [← Deep.add_add, this]
      rfl
    have key2 : ∀ q, q < n * 8 → ∃ z, W.cell? (a.add q) = some (.int .u8 z) ∧ 0 ≤ z ∧ z ≤ 255 := fun q hq => by
      have := key (q / 8) (q % 8) (by omega) (by omega)
      rwa [show q / 8 * 8 + q % 8 = q by omega] at this
    obtain ⟨f, hfz⟩ : ∃ f : Nat → Int, ∀ q, q < n * 8 → W.cell? (a.add q) = some (.int .u8 (f q)) ∧ 0 ≤ f q ∧ f q ≤ 255 :=
      ⟨fun q => (if h : q < n * 8 then (key2 q h).choose else 0), fun q hq => by
        simp only [dif_pos hq]
        exact (key2 q hq).choose_spec⟩
    refine ⟨(List.range (n * 8)).map f, fun hn => ?_, fun i j => ?_⟩
    · have h0 := (hfz 0 (by omega)).1
      have hs := spot_of_cell h0
      have ea : a = ⟨a.block, a.off, none⟩ := by
        have : a.spot = none := by
          revert hs
          unfold Addr.add
          split <;> simp_all
        rw [← this]
      refine ⟨a.block, a.off, by rw [← ea], fun i j hi hj => ?_, fun i j => ?_⟩
      · have hq := (hfz (i * 8 + j) (by omega)).1
        rw [ea] at hq
        have ed : (⟨a.block, a.off, none⟩ : Addr).add (i * 8 + j) = ⟨a.block, a.off + i * 8 + j, none⟩ := by simp [Addr.add, Nat.add_assoc]
        rw [ed] at hq
        rw [hq]
        simp [cB, List.getD, List.getElem?_range (show i * 8 + j < n * 8 by omega)]
      · by_cases hq : i * 8 + j < n * 8
        · simpa [cB, List.getD, List.getElem?_range hq] using (hfz _ hq).2
        · have : ((List.range (n * 8)).map f)[i * 8 + j]? = none := List.getElem?_eq_none (by simpa using hq)
          simp [cB, List.getD, this]
    · by_cases hq : i * 8 + j < n * 8
      · simpa [cB, List.getD, List.getElem?_range hq] using (hfz _ hq).2
      · have : ((List.range (n * 8)).map f)[i * 8 + j]? = none := List.getElem?_eq_none (by simpa using hq)
        simp [cB, List.getD, this]
end

end Go.Proofs.Qxb6003815aDoor
