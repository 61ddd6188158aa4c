import Derived.Test.Qxb6616501aRows
import Derived.WalkKit
import Derived.WalkSpells
import Derived.WalkLawsBesides
import Derived.StillTactics
import Derived.RegionTactic
import Derived.Deep.QuietTactic
import Derived.BigQuiet
namespace Go.Proofs.Qxb6616501a
open Go.RowKit

set_option maxHeartbeats 400000 in
theorem bytes_any (a0 a1 a2 : Option Addr) (l0 c0 l1 c1 l2 c2 : Nat) (b : Bool) (x y z : Int) (w : World)
    (m0 : l0 ≤ 1048576) (m1 : l1 ≤ 1048576) (m2 : l2 ≤ 1048576) (h : l0 + l1 + l2 ≤ 1048576) :
    Calls Try.prog 4 #[.slice a0 l0 c0, .slice a1 l1 c1, .slice a2 l2 c2, .bool b, .int .i64 x, .int .i64 y, .int .i64 z] w fun e w' =>
      e = .returned (.bool true) ∧ w = w' := by
  go_enter Try.func4, Try.ntmps4
  go_wp2
  go_ret
  exact ⟨rfl, rfl⟩

set_option maxHeartbeats 400000 in
theorem list_nil (a : Option Addr) (l c : Nat) (ind : Bool) (x y z : Int) (w : World) (h : ind = true ∨ y = 0) :
    Calls Try.prog 5 #[.slice a l c, .bool ind, .int .i64 x, .int .i64 y, .int .i64 z] w fun e w' =>
      e = .returned (.slice none 0 0) ∧ Below w.heap.size w w' := by
  rcases h with rfl | rfl
  · go_enter Try.func5, Try.ntmps5
    go_wp2
    go_ret
    refine ⟨rfl, ?_⟩
    exact ((Below.refl _ _).alloc (Nat.le_refl _) _).alloc (by simp) _
  · cases ind
    · go_enter Try.func5, Try.ntmps5
      go_wp2
      go_ret
      refine ⟨rfl, ?_⟩
      exact ((Below.refl _ _).alloc (Nat.le_refl _) _).alloc (by simp) _
    · go_enter Try.func5, Try.ntmps5
      go_wp2
      go_ret
      refine ⟨rfl, ?_⟩
      exact ((Below.refl _ _).alloc (Nat.le_refl _) _).alloc (by simp) _

theorem ret_slice {b o l l' c c' : Nat} (h : l = l') (h' : c = c') : Ending.returned (.slice (some ⟨b, o, none⟩) l c) = .returned (.slice (some ⟨b, o, none⟩) l' c') := by rw [h, h']

set_option maxHeartbeats 400000 in
theorem list_some (b off l c : Nat) (x y z : Int) (w : World) (hx : 0 ≤ x) (hy : 0 < y) (hz : 0 ≤ z) (hl : x + y + z ≤ l) (hlc : l ≤ c) (hb : l ≤ 1048576) :
    Calls Try.prog 5 #[.slice (some ⟨b, off, none⟩) l c, .bool false, .int .i64 x, .int .i64 y, .int .i64 z] w fun e w' =>
      ∃ o : Nat, (0 < z → o = off + (x + y).toNat) ∧ e = .returned (.slice (some ⟨b, o, none⟩) z.toNat z.toNat) ∧ Below w.heap.size w w' := by
  have hy0 : (y == 0) = false := by simp; omega
  go_enter Try.func5, Try.ntmps5
  go_wp2
  go_quiet (fail)
  go_wp2
  · go_ret
    refine ⟨off, fun h => by omega, ret_slice (by omega) (by omega), ?_⟩
    exact below_drewN (((Below.refl _ _).alloc (Nat.le_refl _) _).alloc (by simp) _) _
  · go_ret
    refine ⟨off + (x + y).toNat, fun _ => rfl, ret_slice (by omega) (by omega), ?_⟩
    exact below_drewN (((Below.refl _ _).alloc (Nat.le_refl _) _).alloc (by simp) _) _
end Go.Proofs.Qxb6616501a
