/-
  The row of the law, proved: its listed variables give the walk's condition, its arguments are opened, each reads behind the call as before.
-/
import Derived.Test.Qxb6003815aDoorAll
import Derived.Test.Qxb6003815aDoorLaid
import Derived.ShutString
import Derived.ChangeOld
namespace Go.Proofs.Qxb6003815aDoor
open Go.ChangeShapes Go.WideShapes Go.ChangeAt Go.RowKit
set_option linter.unusedVariables false

theorem Tryd.own : ownKnob Tryd.prog.godebug = none := by kernel_rfl
theorem Tryd.laidOut : laidOutB Tryd.prog = true := by kernel_rfl

/-- A world that meets the condition: the settled one, two blocks for what the handles lead to, the three variables' cells laid. -/
theorem laid_met (os : Os) (args : Array Value) : laidMetH Tryd.prog Rows.propRouteFaultFollowsStandardsRow.laid (((((((((World.holding Tryd.prog os ⟨#[.cells #[.bool false, .string ByteArray.empty] 110, .cells #[.bool true, .string ByteArray.empty] 110], #[], []⟩).setCell ⟨0, 0, none⟩ (.pointer (some ⟨9, 0, none⟩))).setCell ⟨1, 0, none⟩ (.pointer (some ⟨10, 0, none⟩))).setCell ⟨2, 0, none⟩ (.int .u8 4)).setCell ⟨2, 1, none⟩ (.int .u8 5)).setCell ⟨2, 2, none⟩ (.int .u8 6)).setCell ⟨2, 3, none⟩ (.int .u8 7)).setCell ⟨2, 4, none⟩ (.int .u8 8)).forCall (fun _ _ => 0) ⟨#[], args, []⟩).memory :=
  laidMetH_of_parts3 (fuel := 8) (laidMet_of_run' 8 (by kernel_rfl) (by kernel_rfl)) (by kernel_rfl) (by kernel_rfl)

theorem var?_below {P : Program} {B g : Nat} {W W' : World} {n : String} {cs : Array Value} (h : Below B W W') (hg : P.globalNamed n = some g) (hgB : g < B) (hv : W.var? P n = some cs) : W'.var? P n = some cs := by
  unfold World.var? at hv ⊢
  simp only [hg, Option.bind_some] at hv ⊢
  rw [h.block g hgB]
  exact hv

theorem args_walk (typ : Int) (l1 l2 : List Int) (tag : Int) (l4 : List Int) (label label2 : Int) (hl : Bool) (gl : Int) (l9 : List Int) (ad : Option Addr) (n cap : Nat) (W : World) (a4 a6 : Addr) (zs : List Int)
    (n1 : l1.length = 8) (n2 : l2.length = 10) (n4 : l4.length = 6) (n9 : l9.length = 16) (hzg : ∀ z ∈ l9, 0 ≤ z ∧ z ≤ 255) (hn : n ≤ maxLen) (hG : Glob a4 a6 W) (hbd : ∀ i j, 0 ≤ cB zs i j ∧ cB zs i j ≤ 255) (hC : Com ad n zs W) :
    Calls Tryd.prog 3 #[.int .u8 typ, .agg (List.toArray (l1.map (Value.int .u8))), .agg (List.toArray (l2.map (Value.int .u8))), .int .u32 tag, .agg (List.toArray (l4.map (Value.int .u8))), .int .u32 label, .int .u32 label2, .bool hl, .int .u8 gl, .agg (List.toArray (l9.map (Value.int .u8))), .slice ad n cap] W
      fun e w' => e = .returned (.bool true) ∧ Below W.heap.size W w' := by
  match l1, n1 with
  | [d0, d1, d2, d3, d4, d5, d6, d7], _ =>
    match l2, n2 with
    | [e0, e1, e2, e3, e4, e5, e6, e7, e8, e9], _ =>
      match l4, n4 with
      | [m0, m1, m2, m3, m4, m5], _ =>
        match l9, n9, hzg with
        | [g0, g1, g2, g3, g4, g5, g6, g7, g8, g9, g10, g11, g12, g13, g14, g15], _, hzg =>
          exact walk_all typ d0 d1 d2 d3 d4 d5 d6 d7 e0 e1 e2 e3 e4 e5 e6 e7 e8 e9 tag m0 m1 m2 m3 m4 m5 label label2 hl gl g0 g1 g2 g3 g4 g5 g6 g7 g8 g9 g10 g11 g12 g13 g14 g15 ad n cap W a4 a6 zs hn hG hbd hC (hzg g0 (by simp)) (hzg g1 (by simp)) (hzg g2 (by simp)) (hzg g3 (by simp)) (hzg g4 (by simp)) (hzg g5 (by simp)) (hzg g6 (by simp)) (hzg g7 (by simp)) (hzg g8 (by simp)) (hzg g9 (by simp)) (hzg g10 (by simp)) (hzg g11 (by simp)) (hzg g12 (by simp)) (hzg g13 (by simp)) (hzg g14 (by simp)) (hzg g15 (by simp))

set_option maxRecDepth 100000 in
set_option maxHeartbeats 1600000 in
theorem lifted (os : Os) (started : os.Started) (H : Type) (enc : TypeId × Value → H) :
    ReturnsInHanded {} Tryd.checked os 3 .any (fun w args => (Rows.propRouteFaultFollowsStandardsSpec.pre enc Tryd.prog Tryd.f3 [] false w args ∧ laidMetH Tryd.prog Rows.propRouteFaultFollowsStandardsRow.laid w) ∧ sizedMet enc Tryd.prog Tryd.f3 (OpenSpec.ofChange Rows.propRouteFaultFollowsStandardsSpec) false w args)
      (Rows.propRouteFaultFollowsStandardsSpec.post enc Tryd.prog Tryd.f3 false true false false) := by
  refine returnsInHanded_of_change_and (C := Tryd.checked) (X := fun w _ => laidMetH Tryd.prog Rows.propRouteFaultFollowsStandardsRow.laid w) (fun _ _ _ hh h => h.of_heap hh) Tryd.own started (by kernel_rfl) Tryd.func3
    (ChangeSpec.witness_shaped (enc := enc) (C := Tryd.checked) (os := os) (X := fun w _ => laidMetH Tryd.prog Rows.propRouteFaultFollowsStandardsRow.laid w) false ((((((((World.holding Tryd.prog os ⟨#[.cells #[.bool false, .string ByteArray.empty] 110, .cells #[.bool true, .string ByteArray.empty] 110], #[], []⟩).setCell ⟨0, 0, none⟩ (.pointer (some ⟨9, 0, none⟩))).setCell ⟨1, 0, none⟩ (.pointer (some ⟨10, 0, none⟩))).setCell ⟨2, 0, none⟩ (.int .u8 4)).setCell ⟨2, 1, none⟩ (.int .u8 5)).setCell ⟨2, 2, none⟩ (.int .u8 6)).setCell ⟨2, 3, none⟩ (.int .u8 7)).setCell ⟨2, 4, none⟩ (.int .u8 8))
      #[.int .u8 0, .agg #[.int .u8 0, .int .u8 0, .int .u8 0, .int .u8 0, .int .u8 0, .int .u8 0, .int .u8 0, .int .u8 0], .agg #[.int .u8 0, .int .u8 0, .int .u8 0, .int .u8 0, .int .u8 0, .int .u8 0, .int .u8 0, .int .u8 0, .int .u8 0, .int .u8 0], .int .u32 0, .agg #[.int .u8 0, .int .u8 0, .int .u8 0, .int .u8 0, .int .u8 0, .int .u8 0], .int .u32 0, .int .u32 0, .bool false, .int .u8 0, .agg #[.int .u8 0, .int .u8 0, .int .u8 0, .int .u8 0, .int .u8 0, .int .u8 0, .int .u8 0, .int .u8 0, .int .u8 0, .int .u8 0, .int .u8 0, .int .u8 0, .int .u8 0, .int .u8 0, .int .u8 0, .int .u8 0], .slice none 0 0] 8 rfl (World.shaped_of_RefB (by kernel_rfl) (by kernel_rfl)) (by kernel_rfl) (by kernel_rfl) (by kernel_rfl) (laid_met os _)) ?_
  intro W base args ds gs before hval0 hW _ _ hL _
  have hval : ∀ (j : Nat) t v, Tryd.f3.params[j]? = some t → args[j]? = some v → Value.okWide Tryd.prog W .any base t v := hval0
  have hW' := hW
  obtain ⟨p, q, hA0, hV0, rfl, hfz, hnd⟩ := hW
  have hA : DataW.TrodAll enc Tryd.prog W 0 (fun _ => true) true Tryd.f3.params.toList args.toList ds p := hA0
  have hV : DataW.TrodVars enc Tryd.prog W (fun _ => true) ["example.com/weftwire/weftwire/wire.evpnKinds"] gs q := hV0
  rw [Tryd.params3] at hA hval
  obtain ⟨v0, vs0, u0, us0, p0, q0, hargs, rfl, rfl, h0, r0⟩ := trodAll_cons hA
  obtain ⟨v1, vs1, u1, us1, p1, q1, rfl, rfl, rfl, h1, r1⟩ := trodAll_cons r0
  obtain ⟨v2, vs2, u2, us2, p2, q2, rfl, rfl, rfl, h2, r2⟩ := trodAll_cons r1
  obtain ⟨v3, vs3, u3, us3, p3, q3, rfl, rfl, rfl, h3, r3⟩ := trodAll_cons r2
  obtain ⟨v4, vs4, u4, us4, p4, q4, rfl, rfl, rfl, h4, r4⟩ := trodAll_cons r3
  obtain ⟨v5, vs5, u5, us5, p5, q5, rfl, rfl, rfl, h5, r5⟩ := trodAll_cons r4
  obtain ⟨v6, vs6, u6, us6, p6, q6, rfl, rfl, rfl, h6, r6⟩ := trodAll_cons r5
  obtain ⟨v7, vs7, u7, us7, p7, q7, rfl, rfl, rfl, h7, r7⟩ := trodAll_cons r6
  obtain ⟨v8, vs8, u8, us8, p8, q8, rfl, rfl, rfl, h8, r8⟩ := trodAll_cons r7
  obtain ⟨v9, vs9, u9, us9, p9, q9, rfl, rfl, rfl, h9, r9⟩ := trodAll_cons r8
  obtain ⟨v10, vs10, u10, us10, p10, q10, rfl, rfl, rfl, h10, r10⟩ := trodAll_cons r9
  obtain ⟨rfl, rfl, rfl⟩ := trodAll_nil r10
  obtain rfl : args = #[v0, v1, v2, v3, v4, v5, v6, v7, v8, v9, v10] := by cases args; simp_all
  obtain ⟨g, t, cs, fuel, d, p', rfl, hg, ht, hvar, hd, rfl⟩ := trodVars_one hV
  have k0 := h0
  have lt0 : ∀ x ∈ p0, x.block < W.heap.size := by obtain ⟨m, hm⟩ := k0; exact DataW.trod_lt m _ _ _ hm
  have k1 := h1
  have lt1 : ∀ x ∈ p1, x.block < W.heap.size := by obtain ⟨m, hm⟩ := k1; exact DataW.trod_lt m _ _ _ hm
  have k2 := h2
  have lt2 : ∀ x ∈ p2, x.block < W.heap.size := by obtain ⟨m, hm⟩ := k2; exact DataW.trod_lt m _ _ _ hm
  have k3 := h3
  have lt3 : ∀ x ∈ p3, x.block < W.heap.size := by obtain ⟨m, hm⟩ := k3; exact DataW.trod_lt m _ _ _ hm
  have k4 := h4
  have lt4 : ∀ x ∈ p4, x.block < W.heap.size := by obtain ⟨m, hm⟩ := k4; exact DataW.trod_lt m _ _ _ hm
  have k5 := h5
  have lt5 : ∀ x ∈ p5, x.block < W.heap.size := by obtain ⟨m, hm⟩ := k5; exact DataW.trod_lt m _ _ _ hm
  have k6 := h6
  have lt6 : ∀ x ∈ p6, x.block < W.heap.size := by obtain ⟨m, hm⟩ := k6; exact DataW.trod_lt m _ _ _ hm
  have k7 := h7
  have lt7 : ∀ x ∈ p7, x.block < W.heap.size := by obtain ⟨m, hm⟩ := k7; exact DataW.trod_lt m _ _ _ hm
  have k8 := h8
  have lt8 : ∀ x ∈ p8, x.block < W.heap.size := by obtain ⟨m, hm⟩ := k8; exact DataW.trod_lt m _ _ _ hm
  have k9 := h9
  have lt9 : ∀ x ∈ p9, x.block < W.heap.size := by obtain ⟨m, hm⟩ := k9; exact DataW.trod_lt m _ _ _ hm
  have k10 := h10
  have lt10 : ∀ x ∈ p10, x.block < W.heap.size := by obtain ⟨m, hm⟩ := k10; exact DataW.trod_lt m _ _ _ hm
  obtain ⟨a0, rfl, _, _, _⟩ := open_int Tryd.underlying5 (hval 0 5 v0 rfl rfl) h0
  obtain ⟨l1, n1, rfl, _⟩ := open_bytes Tryd.underlying22 (by kernel_rfl) (hval 1 22 v1 rfl rfl) h1
  obtain ⟨l2, n2, rfl, _⟩ := open_bytes Tryd.underlying23 (by kernel_rfl) (hval 2 23 v2 rfl rfl) h2
  obtain ⟨a3, rfl, _, _, _⟩ := open_int Tryd.underlying24 (hval 3 24 v3 rfl rfl) h3
  obtain ⟨l4, n4, rfl, _⟩ := open_bytes Tryd.underlying25 (by kernel_rfl) (hval 4 25 v4 rfl rfl) h4
  obtain ⟨a5, rfl, _, _, _⟩ := open_int Tryd.underlying24 (hval 5 24 v5 rfl rfl) h5
  obtain ⟨a6', rfl, _, _, _⟩ := open_int Tryd.underlying24 (hval 6 24 v6 rfl rfl) h6
  obtain ⟨a7, rfl, _, _⟩ := open_bool Tryd.underlying4 (hval 7 4 v7 rfl rfl) h7
  obtain ⟨a8, rfl, _, _, _⟩ := open_int Tryd.underlying5 (hval 8 5 v8 rfl rfl) h8
  obtain ⟨l9, n9, rfl, hz9⟩ := open_bytes Tryd.underlying26 (by kernel_rfl) (hval 9 26 v9 rfl rfl) h9
  obtain ⟨ad, n, cap, rfl⟩ := okWide_slice Tryd.underlying27 (hval 10 27 v10 rfl rfl)
  obtain ⟨hn, zs, hC, hbd⟩ := open_coms h10
  obtain ⟨a4, a6, hG⟩ := of_laid hL
  clear hA0 hval0
  refine (args_walk a0 l1 l2 a3 l4 a5 a6' a7 a8 l9 ad n cap W a4 a6 zs n1 n2 n4 n9 hz9 hn hG hbd hC).mono fun e W' ⟨he, bel⟩ => ?_
  subst he
  have hgB : g < W.heap.size := by
    unfold World.var? at hvar
    simp only [hg, Option.bind_some] at hvar
    rcases Nat.lt_or_ge g W.heap.size with e | e
    · exact e
    · rw [Array.getElem?_eq_none e] at hvar
      simp at hvar
  have ltv : ∀ x ∈ p', x.block < W.heap.size := DataW.trod_lt fuel _ _ _ hd
  obtain rfl := Option.some.inj (gKinds.symm.trans hg)
  obtain rfl := Option.some.inj (tKinds.symm.trans ht)
  obtain ⟨fuel', hd'⟩ := Below.trod (v := .agg cs) Tryd.laidOut (by kernel_rfl) (of_decide_eq_true (by kernel_rfl)) ⟨fuel, hd⟩ bel ltv
  exact ⟨_, rfl, _, _, _, [], _, _, hW', trodAll_mk1 (shut_bool Tryd.underlying4 _), (trodAll_cons_mk (Below.trod Tryd.laidOut (by kernel_rfl) (of_decide_eq_true (by kernel_rfl)) k0 bel lt0) (trodAll_cons_mk (Below.trod Tryd.laidOut (by kernel_rfl) (of_decide_eq_true (by kernel_rfl)) k1 bel lt1) (trodAll_cons_mk (Below.trod Tryd.laidOut (by kernel_rfl) (of_decide_eq_true (by kernel_rfl)) k2 bel lt2) (trodAll_cons_mk (Below.trod Tryd.laidOut (by kernel_rfl) (of_decide_eq_true (by kernel_rfl)) k3 bel lt3) (trodAll_cons_mk (Below.trod Tryd.laidOut (by kernel_rfl) (of_decide_eq_true (by kernel_rfl)) k4 bel lt4) (trodAll_cons_mk (Below.trod Tryd.laidOut (by kernel_rfl) (of_decide_eq_true (by kernel_rfl)) k5 bel lt5) (trodAll_cons_mk (Below.trod Tryd.laidOut (by kernel_rfl) (of_decide_eq_true (by kernel_rfl)) k6 bel lt6) (trodAll_cons_mk (Below.trod Tryd.laidOut (by kernel_rfl) (of_decide_eq_true (by kernel_rfl)) k7 bel lt7) (trodAll_cons_mk (Below.trod Tryd.laidOut (by kernel_rfl) (of_decide_eq_true (by kernel_rfl)) k8 bel lt8) (trodAll_cons_mk (Below.trod Tryd.laidOut (by kernel_rfl) (of_decide_eq_true (by kernel_rfl)) k9 bel lt9) (trodAll_cons_mk (Below.trod Tryd.laidOut (by kernel_rfl) (of_decide_eq_true (by kernel_rfl)) k10 bel lt10) trodAll_mk0))))))))))), trodVars_mk1 hg ht (var?_below bel hg hgB hvar) hd', bel.frame _, fun h => by cases h⟩

theorem row_holds : Rows.PropRouteFaultFollowsStandardsSaid :=
  OpenClaim.holds_of_wide 3 Tryd.f3 rfl rfl rfl rfl rfl rfl rfl ⟨rfl, rfl, rfl, rfl, rfl⟩ rfl rfl rfl rfl rfl (by kernel_rfl) Tryd.func3 (by kernel_rfl)
    (of_decide_eq_true (by kernel_rfl)) (by unfold Func.isWrapper; first | (rw [if_pos (by decide +kernel)]; kernel_rfl) | (rw [if_neg (by decide +kernel)]; exact ⟨rfl, rfl⟩))
    (fun os started H enc _ => lifted os started H enc)

end Go.Proofs.Qxb6003815aDoor
