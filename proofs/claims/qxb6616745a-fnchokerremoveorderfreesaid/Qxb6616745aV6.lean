import Derived.Test.Qxb6616745aW2
import Derived.Test.Qxb6616745aV4
namespace Go.Proofs.Qxb6616745a
open Go.RowKit

set_option maxRecDepth 100000 in
set_option maxHeartbeats 1000000 in
theorem bytes18_any (a0 : Option Addr) (n cap0 : Nat) (a b : Int) (oi ou : Bool) (ol : Int) (w : World) (hn : n ≤ maxLen) (v : Bool) (hv : v = decide (n ≤ 1048576)) :
    Calls Try.prog 18 #[.slice a0 n cap0, .int .i64 a, .int .i64 b, sv oi ou ol] w fun e w' => e = .returned (.bool v) ∧ w.grownBy w' none := by
  have hm : (n : Int) ≤ 9223372036854775807 := by unfold maxLen at hn; omega
  by_cases h1 : n ≤ 1048576
  · have hvt : v = true := by rw [hv]; simpa using h1
    clear hv
    obtain rfl := hvt
    have h1' : (n : Int) ≤ 1048576 := by omega
    have h1'' : decide ((1048576 : Int) < n) = false := by rw [decide_eq_false_iff_not]; omega
    go_enter Try.func18, Try.ntmps18
    go_wp2
    go_ret
    exact ⟨rfl, grown_alloc _ _ _⟩
  · have hvt : v = false := by rw [hv]; simpa using h1
    clear hv
    obtain rfl := hvt
    have h1' : (1048576 : Int) < n := by omega
    go_enter Try.func18, Try.ntmps18
    go_wp2
    go_ret
    exact ⟨rfl, grown_alloc _ _ _⟩

set_option maxRecDepth 100000 in
set_option maxHeartbeats 2000000 in
theorem law4_long (a0 : Option Addr) (n cap0 : Nat) (a b : Int) (oi ou : Bool) (ol : Int) (w : World) (hn : n ≤ maxLen) (h : 4096 < n) :
    Calls Try.prog 4 #[.slice a0 n cap0, .int .i64 a, .int .i64 b, sv oi ou ol] w fun e w' => e = .returned (.bool true) ∧ w.grownBy w' none := by
  have hm : (n : Int) ≤ 9223372036854775807 := by unfold maxLen at hn; omega
  have h2' : (4096 : Int) < n := by omega
  by_cases h1 : n ≤ 1048576
  · go_enter Try.func4, Try.ntmps4
    go_wp2_with (go_at_call 18; refine (bytes18_any a0 n cap0 a b oi ou ol _ hn true (by simpa using h1)).mono ?_; rintro e w1 ⟨rfl, hg1⟩)
    go_ret
    exact ⟨rfl, grown_trans (grown_alloc _ _ _) hg1⟩
  · go_enter Try.func4, Try.ntmps4
    go_wp2_with (go_at_call 18; refine (bytes18_any a0 n cap0 a b oi ou ol _ hn false (by simpa using h1)).mono ?_; rintro e w1 ⟨rfl, hg1⟩)
    go_ret
    exact ⟨rfl, grown_trans (grown_alloc _ _ _) hg1⟩

set_option maxRecDepth 100000 in
set_option maxHeartbeats 2000000 in
theorem law4_bad (a0 : Option Addr) (n cap0 N : Nat) (a b : Int) (oi ou : Bool) (ol : Int) (I U : Nat → Bool) (L : Nat → Int) (w : World) (hi : In w N a0 n I U L) (hN : N ≤ w.heap.size) (hn : n ≤ 4096) (h : InvB I U n = false) :
    Calls Try.prog 4 #[.slice a0 n cap0, .int .i64 a, .int .i64 b, sv oi ou ol] w fun e w' => e = .returned (.bool true) ∧ w.grownBy w' none := by
  have h2' : decide ((4096 : Int) < n) = false := by rw [decide_eq_false_iff_not]; omega
  have HI : Hid (In w N a0 n I U L) := hi
  have HG0 : Hid (w.grownBy (w.alloc (.cells #[.bool oi, .bool ou, .int .i64 ol] 24)) none) := grown_alloc _ _ _
  clear hi
  go_enter Try.func4, Try.ntmps4
  go_wp2_with (first
    | (go_at_call 18; refine (bytes18_any a0 n cap0 a b oi ou ol _ (by unfold maxLen; omega) true (by simp; omega)).mono ?_; rintro e w0 ⟨rfl, hg0⟩; have HG : Hid (w.grownBy w0 none) := grown_trans HG0.out hg0; clear hg0)
    | (go_at_call 6; refine (inv_any a0 n cap0 N I U L _ (HI.out.below (below_grown HG.out hN (by simp))) hn).mono ?_; rintro e w1 ⟨rfl, rfl⟩))
  go_ret
  exact ⟨rfl, HG.out⟩
end Go.Proofs.Qxb6616745a
