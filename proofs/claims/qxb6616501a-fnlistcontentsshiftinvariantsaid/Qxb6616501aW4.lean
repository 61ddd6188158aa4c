import Derived.Test.Qxb6616501aW3
namespace Go.Proofs.Qxb6616501a
open Go.RowKit

set_option maxRecDepth 100000 in
set_option maxHeartbeats 1000000 in
theorem law_long (a0 a1 a2 : Option Addr) (l0 c0 l1 c1 l2 c2 : Nat) (b : Bool) (x y z : Int) (w : World)
    (m0 : l0 ≤ maxLen) (m1 : l1 ≤ maxLen) (m2 : l2 ≤ maxLen) (h : 1048576 < l0 + l1 + l2) :
    Calls Try.prog 3 #[.slice a0 l0 c0, .slice a1 l1 c1, .slice a2 l2 c2, .bool b, .int .i64 x, .int .i64 y, .int .i64 z] w fun e w' => e = .returned (.bool true) ∧ Below w.heap.size w w' := by
  go_enter Try.func3, Try.ntmps3
  go_wp2_with (go_at_call 4; refine (bytes_no _ _ _ _ _ _ _ _ _ _ _ _ _ _ m0 m1 m2 h).mono ?_; rintro e w' ⟨rfl, rfl⟩)
  go_ret
  exact ⟨rfl, Below.refl _ _⟩

set_option maxRecDepth 100000 in
set_option maxHeartbeats 1000000 in
theorem law_out (a0 a1 a2 : Option Addr) (l0 c0 l1 c1 l2 c2 : Nat) (b : Bool) (x y z : Int) (w : World)
    (h : l0 + l1 + l2 ≤ 1048576) (hx : -9223372036854775808 ≤ x) (hy : -9223372036854775808 ≤ y) (hz : -9223372036854775808 ≤ z) (hx' : x ≤ 9223372036854775807) (hy' : y ≤ 9223372036854775807) (hz' : z ≤ 9223372036854775807)
    (ho : x < 0 ∨ y < 0 ∨ z < 0 ∨ l0 < x ∨ l0 < y ∨ l0 < z ∨ (0 < y ∧ l0 < x + y + z)) :
    Calls Try.prog 3 #[.slice a0 l0 c0, .slice a1 l1 c1, .slice a2 l2 c2, .bool b, .int .i64 x, .int .i64 y, .int .i64 z] w fun e w' => e = .returned (.bool true) ∧ Below w.heap.size w w' := by
  have g2 : (decide ((1048576 : Int) < l0)) = false := by simp; omega
  have g3 : (decide ((1048576 : Int) < l1)) = false := by simp; omega
  have g4 : (decide ((1048576 : Int) < l2)) = false := by simp; omega
  have key : ∀ (c : Bool), Calls Try.prog 3 #[.slice a0 l0 c0, .slice a1 l1 c1, .slice a2 l2 c2, .bool c, .int .i64 x, .int .i64 y, .int .i64 z] w (fun e w' => e = .returned (.bool true) ∧ Below w.heap.size w w') := by
    intro c
    by_cases n1 : x < 0
    · have d1 : decide (x < 0) = true := by simp; omega
      go_enter Try.func3, Try.ntmps3
      go_wp2_with (go_at_call 4; refine (bytes_any _ _ _ _ _ _ _ _ _ _ _ _ _ _ (by omega) (by omega) (by omega) (by omega)).mono ?_; rintro e w' ⟨rfl, rfl⟩)
      go_ret
      exact ⟨rfl, Below.refl _ _⟩
    have d1 : decide (x < 0) = false := by simp; omega
    by_cases n2 : y < 0
    · have d2 : decide (y < 0) = true := by simp; omega
      go_enter Try.func3, Try.ntmps3
      go_wp2_with (go_at_call 4; refine (bytes_any _ _ _ _ _ _ _ _ _ _ _ _ _ _ (by omega) (by omega) (by omega) (by omega)).mono ?_; rintro e w' ⟨rfl, rfl⟩)
      go_ret
      exact ⟨rfl, Below.refl _ _⟩
    have d2 : decide (y < 0) = false := by simp; omega
    by_cases n3 : z < 0
    · have d3 : decide (z < 0) = true := by simp; omega
      go_enter Try.func3, Try.ntmps3
      go_wp2_with (go_at_call 4; refine (bytes_any _ _ _ _ _ _ _ _ _ _ _ _ _ _ (by omega) (by omega) (by omega) (by omega)).mono ?_; rintro e w' ⟨rfl, rfl⟩)
      go_ret
      exact ⟨rfl, Below.refl _ _⟩
    have d3 : decide (z < 0) = false := by simp; omega
    by_cases n4 : l0 < x
    · have d4 : decide (l0 < x) = true := by simp; omega
      go_enter Try.func3, Try.ntmps3
      go_wp2_with (go_at_call 4; refine (bytes_any _ _ _ _ _ _ _ _ _ _ _ _ _ _ (by omega) (by omega) (by omega) (by omega)).mono ?_; rintro e w' ⟨rfl, rfl⟩)
      go_ret
      exact ⟨rfl, Below.refl _ _⟩
    have d4 : decide (l0 < x) = false := by simp; omega
    by_cases n5 : l0 < y
    · have d5 : decide (l0 < y) = true := by simp; omega
      go_enter Try.func3, Try.ntmps3
      go_wp2_with (go_at_call 4; refine (bytes_any _ _ _ _ _ _ _ _ _ _ _ _ _ _ (by omega) (by omega) (by omega) (by omega)).mono ?_; rintro e w' ⟨rfl, rfl⟩)
      go_ret
      exact ⟨rfl, Below.refl _ _⟩
    have d5 : decide (l0 < y) = false := by simp; omega
    by_cases n6 : l0 < z
    · have d6 : decide (l0 < z) = true := by simp; omega
      go_enter Try.func3, Try.ntmps3
      go_wp2_with (go_at_call 4; refine (bytes_any _ _ _ _ _ _ _ _ _ _ _ _ _ _ (by omega) (by omega) (by omega) (by omega)).mono ?_; rintro e w' ⟨rfl, rfl⟩)
      go_ret
      exact ⟨rfl, Below.refl _ _⟩
    have d6 : decide (l0 < z) = false := by simp; omega
    have hl : 0 < y ∧ l0 < x + y + z := by omega
    obtain ⟨hl1, hl2⟩ := hl
    have d7 : decide (0 < y) = true := by simp; omega
    have d8 : decide (l0 < x + y + z) = true := by simp; omega
    clear ho
    go_enter Try.func3, Try.ntmps3
    go_wp2_with (go_at_call 4; refine (bytes_any _ _ _ _ _ _ _ _ _ _ _ _ _ _ (by omega) (by omega) (by omega) (by omega)).mono ?_; rintro e w' ⟨rfl, rfl⟩)
    go_ret
    exact ⟨rfl, Below.refl _ _⟩
  exact key b
end Go.Proofs.Qxb6616501a
