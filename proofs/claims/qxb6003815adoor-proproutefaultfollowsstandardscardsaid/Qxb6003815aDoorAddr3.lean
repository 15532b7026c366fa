/-
  net/netip on the road, third part: IsUnspecified of an IPv6 address.
-/
import Derived.Test.Qxb6003815aDoorAddr2
namespace Go.Proofs.Qxb6003815aDoor
open Go.ChangeShapes Go.WideShapes Go.ChangeAt Go.RowKit
set_option linter.unusedVariables false

set_option maxRecDepth 100000 in
set_option maxHeartbeats 3200000 in
theorem isUnsp6_yes (a4 a6 : Addr) (w : World) (h : Glob a4 a6 w) :
    Calls Tryd.prog 12 #[.agg #[.int .u64 0, .int .u64 0, .pointer (some a6)]] w fun e w' => e = .returned (.bool true) ∧ Below w.heap.size w w' := by
  have hB0 : Below w.heap.size w (w.alloc (.cells #[.int .u64 0, .int .u64 0, .pointer (some a6)] 41)) := (Below.refl _ w).alloc (Nat.le_refl _) _
  have hG := (h.below hB0 (Nat.le_refl _)).drew
  have hq1 := run_addr_ints 0 0 0 281470681743360 (some a6) (some a4)
  have q1 := fun w => hq1 w (by omega)
  have q2 := run_addr_same 0 0 a6
  clear hq1
  clear h
  go_enter Tryd.func12, Tryd.ntmps12
  go_wp2
  go_region_with (first | (go_at_call 17; refine (unspec4_any a4 a6 _ ?_).mono ?_; exact hG; rintro e w1 ⟨rfl, hb⟩; have hb' : Below (w.heap.size + 1) (w.alloc (.cells #[.int .u64 0, .int .u64 0, .pointer (some a6)] 41)) w1 := (by simpa using (((Below.refl _ _).drew).trans hb)); obtain ⟨k0, k1, k2⟩ := box3 hb'; have hG1 := hG.below hb (Nat.le_refl _)) | (go_at_call 18; refine (unspec6_any a4 a6 _ ?_).mono ?_; exact hG1; rintro e w2 ⟨rfl, hb2⟩; have hb2' : Below (w.heap.size + 1) (w.alloc (.cells #[.int .u64 0, .int .u64 0, .pointer (some a6)] 41)) w2 := hb'.trans (hb2.mono (by have := hb'.size; simp at this; omega)); obtain ⟨m0, m1, m2⟩ := box3 hb2'))
  all_goals
    go_wp2
    go_ret
    exact ⟨rfl, hB0.trans (hb2'.mono (by omega))⟩

set_option maxRecDepth 100000 in
set_option maxHeartbeats 3200000 in
theorem isUnsp6_no (hi lo : Int) (a4 a6 : Addr) (w : World) (h : Glob a4 a6 w) (hn : ¬ (hi = 0 ∧ lo = 281470681743360)) (hn2 : ¬ (hi = 0 ∧ lo = 0)) :
    Calls Tryd.prog 12 #[.agg #[.int .u64 hi, .int .u64 lo, .pointer (some a6)]] w fun e w' => e = .returned (.bool false) ∧ Below w.heap.size w w' := by
  have hB0 : Below w.heap.size w (w.alloc (.cells #[.int .u64 hi, .int .u64 lo, .pointer (some a6)] 41)) := (Below.refl _ w).alloc (Nat.le_refl _) _
  have hG := (h.below hB0 (Nat.le_refl _)).drew
  have hq1 := run_addr_ints hi lo 0 281470681743360 (some a6) (some a4)
  have hq2 := run_addr_ints hi lo 0 0 (some a6) (some a6)
  have q1 := fun w => hq1 w hn
  have q2 := fun w => hq2 w hn2
  clear hq1 hq2 hn hn2
  clear h
  go_enter Tryd.func12, Tryd.ntmps12
  go_wp2
  go_region_with (first | (go_at_call 17; refine (unspec4_any a4 a6 _ ?_).mono ?_; exact hG; rintro e w1 ⟨rfl, hb⟩; have hb' : Below (w.heap.size + 1) (w.alloc (.cells #[.int .u64 hi, .int .u64 lo, .pointer (some a6)] 41)) w1 := (by simpa using (((Below.refl _ _).drew).trans hb)); obtain ⟨k0, k1, k2⟩ := box3 hb'; have hG1 := hG.below hb (Nat.le_refl _)) | (go_at_call 18; refine (unspec6_any a4 a6 _ ?_).mono ?_; exact hG1; rintro e w2 ⟨rfl, hb2⟩; have hb2' : Below (w.heap.size + 1) (w.alloc (.cells #[.int .u64 hi, .int .u64 lo, .pointer (some a6)] 41)) w2 := hb'.trans (hb2.mono (by have := hb'.size; simp at this; omega)); obtain ⟨m0, m1, m2⟩ := box3 hb2'))
  all_goals
    go_wp2
    go_ret
    exact ⟨rfl, hB0.trans (hb2'.mono (by omega))⟩

set_option maxRecDepth 100000 in
set_option maxHeartbeats 3200000 in
theorem isUnsp6_mapped (a4 a6 : Addr) (w : World) (h : Glob a4 a6 w) :
    Calls Tryd.prog 12 #[.agg #[.int .u64 0, .int .u64 281470681743360, .pointer (some a6)]] w fun e w' => e = .returned (.bool false) ∧ Below w.heap.size w w' := by
  have hB0 : Below w.heap.size w (w.alloc (.cells #[.int .u64 0, .int .u64 281470681743360, .pointer (some a6)] 41)) := (Below.refl _ w).alloc (Nat.le_refl _) _
  have hG := (h.below hB0 (Nat.le_refl _)).drew
  have hq2 := run_addr_ints 0 281470681743360 0 0 (some a6) (some a6)
  have q2 := fun w => hq2 w (by omega)
  clear hq2
  clear h
  go_enter Tryd.func12, Tryd.ntmps12
  go_wp2
  go_region_with (first | (go_at_call 17; refine (unspec4_any a4 a6 _ ?_).mono ?_; exact hG; rintro e w1 ⟨rfl, hb⟩; have hb' : Below (w.heap.size + 1) (w.alloc (.cells #[.int .u64 0, .int .u64 281470681743360, .pointer (some a6)] 41)) w1 := (by simpa using (((Below.refl _ _).drew).trans hb)); obtain ⟨k0, k1, k2⟩ := box3 hb'; have hG1 := hG.below hb (Nat.le_refl _); obtain ⟨cc4, tt4, e4⟩ := hG1.b4; obtain ⟨cc6, tt6, e6⟩ := hG1.b6; have q1 : (Op.equalIn 9998 37 (.pointer (some a6)) (.pointer (some a4))).run Tryd.prog w1 = .ok false w1 := run_ptr37_other 9997 w1 (Ne.symm hG1.ne) e6 e4; clear e4 e6) | (go_at_call 18; refine (unspec6_any a4 a6 _ ?_).mono ?_; exact hG1; rintro e w2 ⟨rfl, hb2⟩; have hb2' : Below (w.heap.size + 1) (w.alloc (.cells #[.int .u64 0, .int .u64 281470681743360, .pointer (some a6)] 41)) w2 := hb'.trans (hb2.mono (by have := hb'.size; simp at this; omega)); obtain ⟨m0, m1, m2⟩ := box3 hb2'))
  all_goals
    go_wp2
    go_ret
    exact ⟨rfl, hB0.trans (hb2'.mono (by omega))⟩

end Go.Proofs.Qxb6003815aDoor
