/-
  'TunnelTypes' and its iterator: the range over a function, at the fence that asks nothing.
-/
import Derived.RangeFuncNested
import Derived.RangeFuncFrom
import Derived.RangeFuncBound
import Derived.RangeFuncCalls
import Derived.RangeFuncLeaves
import Derived.Shelf.Abstract
import Derived.Shelf.RegionOpen
import Derived.WalkKit
import Derived.OwnWalkIn
import Derived.TacticsInMore
import Derived.LoopNIn
import Derived.LoopIn
import Derived.Test.Qxb6003815aDoorTunnel
namespace Go.Proofs.Qxb6003815aDoor
open Go.RowKit Go.Shelf
attribute [local go_sem] Oper.semAt_some
set_option linter.unusedVariables false

/-- The tunnel type that community i names. -/
def t16 (zs : List Int) (i : Nat) : Int := cB zs i 6 * 256 + cB zs i 7
/-- The tunnel types of the first k communities, in their order. -/
def tuns (zs : List Int) : Nat → List Int
  | 0 => []
  | k + 1 => tuns zs k ++ if kindOf (cB zs k 0) (cB zs k 1) = 2 then [t16 zs k] else []
theorem tuns_len (zs : List Int) (k : Nat) : (tuns zs k).length ≤ k := by
  induction k with
  | zero => simp [tuns]
  | succ k ih => simp only [tuns, List.length_append]; split <;> simp <;> omega
theorem tuns_yes {zs : List Int} {k : Nat} (h : kindOf (cB zs k 0) (cB zs k 1) = 2) : tuns zs (k + 1) = tuns zs k ++ [t16 zs k] := by simp only [tuns, if_pos h]
theorem tuns_no {zs : List Int} {k : Nat} (h : kindOf (cB zs k 0) (cB zs k 1) ≠ 2) : tuns zs (k + 1) = tuns zs k := by simp only [tuns, if_neg h, List.append_nil]

theorem grown_of_below {w w' : World} (h : Below w.heap.size w w') : w.grownBy w' none := ⟨h.os, h.tape, h.output, h.size, fun k hk _ => h.block k hk⟩

set_option maxRecDepth 100000 in
set_option maxHeartbeats 2000000 in
theorem tun1_in (n : Nat) (hn : 1 ≤ n) (l Bs n₀ Ba m cap : Nat) (ad : Option Addr) (zs : List Int) (a4 a6 : Addr) (hm : m ≤ 65536) (J Jx : List Int → World → Prop) (W : World)
    (hJ : AbidesFrom W.heap.size J) (hn₀ : n₀ ≤ W.heap.size)
    (hY : ∀ pre x W1, J pre W1 → pre.length < m → YieldAt Fence.wide (n - 1) Tryd.prog l #[.int .u16 x] W1 fun e W' =>
      (e = .returned (.bool true) ∧ J (pre ++ [x]) W' ∧ Below n₀ W1 W') ∨ (e = .returned (.bool false) ∧ Jx (pre ++ [x]) W'))
    (hBs : W.cell? ⟨Bs, 0, none⟩ = some (.pointer (some ⟨Ba, 0, none⟩)))
    (hA : ∀ V, Below n₀ W V → Attr Ba ad m cap zs V) (hG : ∀ V, Below n₀ W V → Glob a4 a6 V) (h0 : J [] W) :
    CallsIn Fence.wide n Tryd.prog 23 #[.func (.yield l) #[] #[], .pointer (some ⟨Bs, 0, none⟩)] W fun e W' => (∃ v, e = .returned v) ∧
      ((∃ ys, ys = tuns zs m ∧ J ys W') ∨ (∃ pre, (∃ k, k ≤ m ∧ pre = tuns zs k) ∧ Jx pre W')) := by
  have hfld := (hA W (Below.refl _ _)).fld
  refine callsIn_of_wp Tryd.func23 rfl trivial ?_ rfl
  simp only [Tryd.ntmps23, List.size_toArray, List.length_cons, List.length_nil, Nat.reduceAdd, Nat.reduceSub, Array.replicate_succ, Array.replicate_zero, List.push_toArray, List.append_toArray, List.nil_append, List.cons_append]
  gi_wp2
  gi_loopw [12] (fun i wr => ∃ k : Nat, k ≤ m ∧ i = .int .i64 k ∧ J (tuns zs k) wr ∧ Below n₀ W wr)
    (fun i _ => m - (intOf i).toNat)
  case atStart => exact ⟨0, Nat.zero_le _, rfl, h0, Below.refl _ _⟩
  case round =>
    obtain ⟨k, hk, rfl, hJs, hnx⟩ := hrel
    by_cases hkm : k < m
    · obtain ⟨b, off, rfl, hrow⟩ := (hA wr hnx).row (by omega)
      have q0 := hrow.cell k 0 hkm (by omega)
      rw [Nat.add_zero] at q0
      have q1 := hrow.cell k 1 hkm (by omega)
      have q2 := hrow.cell k 2 hkm (by omega)
      have q3 := hrow.cell k 3 hkm (by omega)
      have q4 := hrow.cell k 4 hkm (by omega)
      have q5 := hrow.cell k 5 hkm (by omega)
      have q6 := hrow.cell k 6 hkm (by omega)
      have q7 := hrow.cell k 7 hkm (by omega)
      have hb1 := hrow.bd k 1
      have hb6 := hrow.bd k 6
      have hb7 := hrow.bd k 7
      obtain ⟨x0, hx0⟩ : ∃ x, x = cB zs k 0 := ⟨_, rfl⟩
      obtain ⟨x1, hx1⟩ : ∃ x, x = cB zs k 1 := ⟨_, rfl⟩
      obtain ⟨x2, hx2⟩ : ∃ x, x = cB zs k 2 := ⟨_, rfl⟩
      obtain ⟨x3, hx3⟩ : ∃ x, x = cB zs k 3 := ⟨_, rfl⟩
      obtain ⟨x4, hx4⟩ : ∃ x, x = cB zs k 4 := ⟨_, rfl⟩
      obtain ⟨x5, hx5⟩ : ∃ x, x = cB zs k 5 := ⟨_, rfl⟩
      obtain ⟨x6, hx6⟩ : ∃ x, x = cB zs k 6 := ⟨_, rfl⟩
      obtain ⟨x7, hx7⟩ : ∃ x, x = cB zs k 7 := ⟨_, rfl⟩
      rw [← hx0] at q0
      rw [← hx1] at q1
      rw [← hx2] at q2
      rw [← hx3] at q3
      rw [← hx4] at q4
      rw [← hx5] at q5
      rw [← hx6] at q6
      rw [← hx7] at q7
      rw [← hx1] at hb1
      rw [← hx6] at hb6
      rw [← hx7] at hb7
      have HK : Hid (kindOf x0 x1 = kindOf (cB zs k 0) (cB zs k 1)) := by show _ = _; rw [hx0, hx1]
      have HT : Hid (x6 * 256 + x7 = t16 zs k) := by show _ = _; rw [hx6, hx7]; rfl
      have hsz : n₀ ≤ wr.heap.size := Nat.le_trans hn₀ hnx.size
      have hG2 := hG _ (hnx.alloc hsz (.cells #[.int .u8 x0, .int .u8 x1, .int .u8 x2, .int .u8 x3, .int .u8 x4, .int .u8 x5, .int .u8 x6, .int .u8 x7] 49))
      have hJ2 : J (tuns zs k) (wr.alloc (.cells #[.int .u8 x0, .int .u8 x1, .int .u8 x2, .int .u8 x3, .int .u8 x4, .int .u8 x5, .int .u8 x6, .int .u8 x7] 49)) := hJ _ _ _ none hJs (World.grownBy_alloc _ _ _) (fun r e => by cases e)
      have hlen := tuns_len zs k
      clear hx0 hx1 hx2 hx3 hx4 hx5 hx6 hx7 hrow
      by_cases hkd : kindOf x0 x1 = 2
      · have HK2 : Hid (kindOf (cB zs k 0) (cB zs k 1) = 2) := by show _ = _; rw [← HK.out]; exact hkd
        gi_wp2_with fail
        refine ⟨trivial, ?_⟩
        refine (callsIn_wide.2 (tt_yes x0 x1 x2 x3 x4 x5 x6 x7 a4 a6 _ hG2 hb1 hb6 hb7 hkd)).mono ?_
        rintro e w3 ⟨rfl, hb3⟩
        have hJ3 : J (tuns zs k) w3 := hJ _ _ _ none hJ2 (grown_of_below hb3) (fun r e => by cases e)
        have hnx3 : Below n₀ W w3 := (hnx.alloc hsz _).trans (hb3.mono (by simp; omega))
        obtain ⟨tv, htv⟩ : ∃ t, t = x6 * 256 + x7 := ⟨_, rfl⟩
        rw [← htv]
        have HTV : Hid (tv = t16 zs k) := htv.trans HT.out
        clear htv HT HK hkd hJ2 hJs hb3 hnx hG2 q0 q1 q2 q3 q4 q5 q6 q7 hb1 hb6 hb7
        obtain ⟨fn, tmps, assign, body, hy, hR⟩ := hY _ tv w3 hJ3 (by omega)
        gi_wp2
        refine hR.mono ?_
        rintro e W3 (⟨rfl, hJ4, hk4⟩ | ⟨rfl, hJx4⟩)
        · clear hy hR hJ3
          gi_wp2
          go_roundw
          case rel => exact ⟨k + 1, by omega, by go_num, by rw [tuns_yes HK2.out, ← HTV.out]; exact hJ4, hnx3.trans hk4⟩
          case measure => simp [intOf]; omega
        · clear hy hR hJ3
          gi_wp2
          refine bodyPost_ret (results_none rfl _ _ _) rfl ?_
          exact ⟨⟨_, rfl⟩, .inr ⟨_, ⟨k + 1, by omega, by rw [tuns_yes HK2.out, ← HTV.out]⟩, hJx4⟩⟩
      · have HK2 : Hid (kindOf (cB zs k 0) (cB zs k 1) ≠ 2) := by show _ ≠ _; rw [← HK.out]; exact hkd
        gi_wp2_with fail
        refine ⟨trivial, ?_⟩
        refine (callsIn_wide.2 (tt_no x0 x1 x2 x3 x4 x5 x6 x7 a4 a6 _ hG2 hb1 hkd)).mono ?_
        rintro e w3 ⟨rfl, hb3⟩
        have hJ3 : J (tuns zs k) w3 := hJ _ _ _ none hJ2 (grown_of_below hb3) (fun r e => by cases e)
        have hnx3 : Below n₀ W w3 := (hnx.alloc hsz _).trans (hb3.mono (by simp; omega))
        clear HT HK hkd hJ2 hJs hb3 hnx hG2 q0 q1 q2 q3 q4 q5 q6 q7 hb1 hb6 hb7
        gi_wp2
        refine ⟨fun _ h => (by cases h), ?_⟩
        gi_wp2
        go_roundw
        case rel => exact ⟨k + 1, by omega, by go_num, by rw [tuns_no HK2.out]; exact hJ3, hnx3⟩
        case measure => simp [intOf]; omega
    · obtain rfl : k = m := by omega
      gi_wp2
      go_end0
      exact ⟨⟨_, rfl⟩, .inl ⟨_, rfl, hJs⟩⟩

/-- 'TunnelTypes': the receiver is boxed; the function value captures the box. -/
theorem tt_in (n : Nat) (Ba : Nat) (w : World) :
    CallsIn Fence.wide n Tryd.prog 21 #[.pointer (some ⟨Ba, 0, none⟩)] w fun e w' => e = .returned (.func (.func 23) #[] #[.pointer (some ⟨w.heap.size, 0, none⟩)]) ∧ w' = w.alloc (.cells #[.pointer (some ⟨Ba, 0, none⟩)] 59) := by
  refine callsIn_of_wp Tryd.func21 rfl trivial ?_ rfl
  simp only [Tryd.ntmps21, List.size_toArray, List.length_cons, List.length_nil, Nat.reduceAdd, Nat.reduceSub, Array.replicate_succ, Array.replicate_zero, List.push_toArray, List.append_toArray, List.nil_append, List.cons_append]
  gi_wp2
  go_ret
  exact ⟨rfl, rfl⟩

/-- The iterator's contract. -/
theorem tun_stops (n : Nat) (hn : 1 ≤ n) (Bs Ba m cap : Nat) (ad : Option Addr) (zs : List Int) (a4 a6 : Addr) (hm : m ≤ 65536) (w0 w : World) (hA : Attr Ba ad m cap zs w0) (hG : Glob a4 a6 w0) (hw : Below w0.heap.size w0 w) (hBs : Bs < w.heap.size)
    (hc : w.cell? ⟨Bs, 0, none⟩ = some (.pointer (some ⟨Ba, 0, none⟩))) :
    SeqStopsK Fence.wide n Tryd.prog 23 #[.pointer (some ⟨Bs, 0, none⟩)] (fun x : Int => #[Value.int .u16 x]) (Below w0.heap.size) (fun ys => ys = tuns zs m) (fun pre => ∃ k, k ≤ m ∧ pre = tuns zs k) m w := fun l J Jx W hW hJ _ hY h0 =>
  tun1_in n hn l Bs w0.heap.size Ba m cap ad zs a4 a6 hm J Jx W hJ (Nat.le_trans hw.size hW.size) hY ((hW.cell (p := ⟨Bs, 0, none⟩) hBs).trans hc)
    (fun V hV => hA.below ((hw.trans (hW.mono hw.size)).trans hV) (Nat.le_refl _)) (fun V hV => hG.below ((hw.trans (hW.mono hw.size)).trans hV) (Nat.le_refl _)) h0

theorem tuns_mono {zs : List Int} {k m : Nat} (h : k ≤ m) {y : Int} (hy : y ∈ tuns zs k) : y ∈ tuns zs m := by
  induction m with
  | zero => obtain rfl : k = 0 := by omega
            exact hy
  | succ m ih =>
    by_cases e : k = m + 1
    · subst e; exact hy
    · exact List.mem_append.2 (Or.inl (ih (by omega)))

theorem cell_new_l (W : World) (v : Value) (t : TypeId) : (W.alloc (.cells #[v] t)).cell? ⟨W.heap.size, 0, none⟩ = some v ∧ (W.alloc (.cells #[v] t)).frozen? ⟨W.heap.size, 0, none⟩ = false :=
  ⟨cell_of_one (heap_alloc_new W (.cells #[v] t)), free_of_one (heap_alloc_new W (.cells #[v] t))⟩
theorem cell_alloc_l {W : World} {a : Addr} {v : Value} (o : Obj) (h : W.cell? a = some v) : (W.alloc o).cell? a = some v := cell_kept h (World.grownBy_alloc W o none) (fun r e => by cases e)
theorem frozen_alloc_l {W : World} {a : Addr} {v : Value} (o : Obj) (h : W.cell? a = some v) (hf : W.frozen? a = false) : (W.alloc o).frozen? a = false := (frozen_kept h (World.grownBy_alloc W o none) (fun r e => by cases e)).trans hf

/-- Does the tunnel type leave no choice? -/
def hitT (t : Int) : Bool := t == 8 || t == 9 || t == 10
/-- What 'fixesSplitHorizon' answers. -/
def fixB (zs : List Int) (m : Nat) : Bool := (tuns zs m).any hitT || (tuns zs m).isEmpty

set_option maxRecDepth 100000 in
set_option maxHeartbeats 4000000 in
theorem fix_in (n : Nat) (hn : 3 ≤ n) (Ba m cap : Nat) (ad : Option Addr) (zs : List Int) (a4 a6 : Addr) (hm : m ≤ 65536) (w : World) (hA : Attr Ba ad m cap zs w) (hG : Glob a4 a6 w) :
    CallsIn Fence.wide n Tryd.prog 16 #[.pointer (some ⟨Ba, 0, none⟩)] w fun e W' => e = .returned (.bool (fixB zs m)) ∧ Below w.heap.size w W' := by
  have h1 : 1 ≤ n := by omega
  refine callsIn_of_wp_marks Tryd.func16 rfl trivial ?_ rfl
  simp only [Tryd.ntmps16, List.size_toArray, List.length_cons, List.length_nil, Nat.reduceAdd, Nat.reduceSub, Array.replicate_succ, Array.replicate_zero, List.push_toArray, List.append_toArray, List.nil_append, List.cons_append]
  gi_wp2_with (refine ⟨trivial, ?_⟩; gi_at_call 21; refine (tt_in (n - 1) Ba _).mono ?_; rintro e w' ⟨rfl, rfl⟩)
  have c0 := cell_new_l w (.bool false) 4
  have c1 := cell_new_l (w.alloc (.cells #[.bool false] 4)) (.bool false) 4
  have c2 := cell_new_l ((w.alloc (.cells #[.bool false] 4)).alloc (.cells #[.bool false] 4)) (.pointer (some ⟨Ba, 0, none⟩)) 59
  simp only [World.size_alloc] at c1 c2
  have hB0 : Below w.heap.size w (((w.alloc (.cells #[.bool false] 4)).alloc (.cells #[.bool false] 4)).alloc (.cells #[.pointer (some ⟨Ba, 0, none⟩)] 59)) := (((Below.refl _ w).alloc (Nat.le_refl _) _).alloc (by simp) _).alloc (by simp; omega) _
  refine wpIn_rangeFunc_ownF rfl h1 (gf := 23) (lb := #[.pointer (some ⟨w.heap.size + 1 + 1, 0, none⟩)]) rfl trivial (enters_of Tryd.func23 (by kernel_rfl) rfl)
    (tun_stops (n - 1) (by omega) (w.heap.size + 1 + 1) Ba m cap ad zs a4 a6 hm w _ hA hG hB0 (by simp) c2.1) belowK_t (belowK_b (by simp; omega)) (Below.refl _ _) (fun _ => rfl)
    (fun pre W => ((∀ y ∈ pre, hitT y = false) ∧ (W.cell? ⟨w.heap.size, 0, none⟩ = some (.bool false) ∧ W.frozen? ⟨w.heap.size, 0, none⟩ = false) ∧ W.cell? ⟨w.heap.size + 1, 0, none⟩ = some (.bool (!pre.isEmpty)) ∧ W.frozen? ⟨w.heap.size + 1, 0, none⟩ = false) ∧ Below w.heap.size w W)
    (fun c pre W => (c = .ret ∧ (∃ y ∈ pre, hitT y = true) ∧ W.cell? ⟨w.heap.size, 0, none⟩ = some (.bool true)) ∧ Below w.heap.size w W)
    (OwnFrom.and (Own.from (fun s A B row hs hg hr => ⟨hs.1, ⟨cell_kept hs.2.1.1 hg hr, (frozen_kept hs.2.1.1 hg hr).trans hs.2.1.2⟩, cell_kept hs.2.2.1 hg hr, (frozen_kept hs.2.2.1 hg hr).trans hs.2.2.2⟩) _) (ownFrom_below (Nat.le_refl _) (by simp; omega)))
    (fun c => OwnFrom.and (Own.from (fun s A B row hs hg hr => ⟨hs.1, hs.2.1, cell_kept hs.2.2 hg hr⟩) _) (ownFrom_below (Nat.le_refl _) (by simp; omega)))
    ⟨⟨by simp, ⟨cell_alloc_l _ (cell_alloc_l _ c0.1), frozen_alloc_l _ (cell_alloc_l _ c0.1) (frozen_alloc_l _ c0.1 c0.2)⟩, cell_alloc_l _ c1.1, frozen_alloc_l _ c1.1 c1.2⟩, hB0⟩
    (fun x => { tmps := #[.pointer (some ⟨Ba, 0, none⟩), undef, .pointer (some ⟨w.heap.size, 0, none⟩), .pointer (some ⟨w.heap.size + 1, 0, none⟩), .int .u16 x, .pointer (some ⟨Ba, 0, none⟩), .func (.func 23) #[] #[.pointer (some ⟨w.heap.size + 1 + 1, 0, none⟩)], .int .u16 x, undef, undef, undef, undef, undef, undef, undef], defers := [] }) ?assign ?body ?done ?stop
  case assign =>
    intro l x W K hK
    gi_wp2
    exact hK
  case body =>
    rintro l pre x W ⟨⟨hp, ⟨hcr, hfr⟩, hcf, hff⟩, hB⟩ _
    have HP : Hid (∀ y ∈ pre, hitT y = false) := hp
    clear hp
    by_cases e8 : x = 8
    · subst e8
      gi_wp2
      exact ⟨KeepsOthers.setCell _ _ _, ⟨rfl, ⟨_, List.mem_append.2 (.inr (List.mem_singleton.2 rfl)), rfl⟩, World.cell?_setCell_same' _ _ _ (by rw [hcr]; rfl)⟩, hB.setCell (p := ⟨w.heap.size, 0, none⟩) (Nat.le_refl _) _⟩
    by_cases e9 : x = 9
    · subst e9
      gi_wp2
      exact ⟨KeepsOthers.setCell _ _ _, ⟨rfl, ⟨_, List.mem_append.2 (.inr (List.mem_singleton.2 rfl)), rfl⟩, World.cell?_setCell_same' _ _ _ (by rw [hcr]; rfl)⟩, hB.setCell (p := ⟨w.heap.size, 0, none⟩) (Nat.le_refl _) _⟩
    by_cases e10 : x = 10
    · subst e10
      gi_wp2
      exact ⟨KeepsOthers.setCell _ _ _, ⟨rfl, ⟨_, List.mem_append.2 (.inr (List.mem_singleton.2 rfl)), rfl⟩, World.cell?_setCell_same' _ _ _ (by rw [hcr]; rfl)⟩, hB.setCell (p := ⟨w.heap.size, 0, none⟩) (Nat.le_refl _) _⟩
    have f8 : (x == 8) = false := by simp [e8]
    have f9 : (x == 9) = false := by simp [e9]
    have f10 : (x == 10) = false := by simp [e10]
    have HX : Hid (hitT x = false) := by show _ = _; simp [hitT, e8, e9, e10]
    clear e8 e9 e10
    gi_wp2
    refine ⟨KeepsOthers.setCell _ _ _, (Below.refl w.heap.size W).setCell (p := ⟨w.heap.size + 1, 0, none⟩) (by show w.heap.size ≤ w.heap.size + 1; omega) _, ⟨fun y hy => ?_, ⟨?_, ?_⟩, ?_, ?_⟩, hB.setCell (p := ⟨w.heap.size + 1, 0, none⟩) (by show w.heap.size ≤ w.heap.size + 1; omega) _⟩
    · rcases List.mem_append.1 hy with h | h
      · exact HP.out y h
      · rw [List.mem_singleton.1 h]; exact HX.out
    · rw [World.cell?_of_block (w := W) (Deep.blk_setCell_other _ _ _ _ (by show w.heap.size ≠ w.heap.size + 1; omega))]; exact hcr
    · rw [World.frozen?_setCell]; exact hfr
    · rw [World.cell?_setCell_same' _ _ _ (by rw [hcf]; rfl)]; simp
    · rw [World.frozen?_setCell]; exact hff
  case done =>
    rintro D ys W hD rfl ⟨⟨hne, ⟨hcr, hfr⟩, hcf, hff⟩, hB⟩ hK
    have HN : Hid (∀ y ∈ tuns zs m, hitT y = false) := hne
    obtain ⟨em, hem⟩ : ∃ b, b = (tuns zs m).isEmpty := ⟨_, rfl⟩
    rw [← hem] at hcf
    have HE : Hid (fixB zs m = em) := by
      show _ = _
      unfold fixB
      rw [← hem, List.any_eq_false.2 (fun y hy => by rw [HN.out y hy]; simp), Bool.false_or]
    clear hne hem HN
    gi_wp2
    have hK' := (KeepsOthers.setCell W ⟨w.heap.size, 0, none⟩ (.bool em)).same D _ hK rfl
    refine ⟨by simp, .inl ⟨_, _, rfl, run_takeDeferred hK', ?_⟩⟩
    have hc5 := cell_kept (World.cell?_setCell_same' W ⟨w.heap.size, 0, none⟩ (.bool em) (by rw [hcr]; rfl)) (grownBy_putObj' _ D (.deferred none)) (fun r e => by cases e; exact ⟨_, hK', rfl⟩)
    refine ⟨.bool em, ?_, by rw [HE.out], (hB.setCell (p := ⟨w.heap.size, 0, none⟩) (Nat.le_refl _) _).trans (belowK_b (w := w) (Nat.le_refl _) _ D _ _ (by simp at hD; omega) hK' rfl rfl)⟩
    simp [results, Tryd.f16, go_sem, hc5]
  case stop =>
    rintro D c pre W hD ⟨k, hk, rfl⟩ ⟨⟨rfl, ⟨y, hy, hh⟩, hcr⟩, hB⟩ hK
    have HE : Hid (fixB zs m = true) := by
      show _ = _
      unfold fixB
      rw [List.any_eq_true.2 ⟨y, tuns_mono hk hy, hh⟩, Bool.true_or]
    clear hy hh
    gi_wp2
    refine ⟨by simp, .inl ⟨_, _, rfl, run_takeDeferred hK, ?_⟩⟩
    have hc5 := cell_kept hcr (grownBy_putObj' _ D (.deferred none)) (fun r e => by cases e; exact ⟨_, hK, rfl⟩)
    refine ⟨.bool true, ?_, by rw [HE.out], hB.trans (belowK_b (w := w) (Nat.le_refl _) W D _ _ (by simp at hD; omega) hK rfl rfl)⟩
    simp [results, Tryd.f16, go_sem, hc5]

/-- 'fixesSplitHorizon' as a plain contract. -/
theorem fix_any (Ba m cap : Nat) (ad : Option Addr) (zs : List Int) (a4 a6 : Addr) (w : World) (hm : m ≤ 65536) (hA : Attr Ba ad m cap zs w) (hG : Glob a4 a6 w) :
    Calls Tryd.prog 16 #[.pointer (some ⟨Ba, 0, none⟩)] w fun e W' => e = .returned (.bool (fixB zs m)) ∧ Below w.heap.size w W' :=
  callsIn_wide.1 (fix_in 3 (Nat.le_refl _) Ba m cap ad zs a4 a6 hm w hA hG)

end Go.Proofs.Qxb6003815aDoor
