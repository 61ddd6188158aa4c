import Derived.Test.Qxb6616745aS0
import Derived.Test.Qxb6616745aS1
namespace Go.Proofs.Qxb6616745a
open Go.RowKit

theorem rot_gt (f : Nat → Nat) (m i j : Nat) (h : j < i) (hi : i ≤ m) : rot (swapR f (m - i) m j) (m - (i - j)) m (m + j) = rot f (m - i) m (m + j) := by
  funext x
  unfold rot swapR
  repeat' split
  all_goals first | rfl | (exfalso; omega) | (congr 1; omega)
theorem rot_lt (f : Nat → Nat) (m i j : Nat) (h : i < j) (hi : i ≤ m) : rot (swapR f (m - i) (m + j - i) i) (m - i) m (m + (j - i)) = rot f (m - i) m (m + j) := by
  funext x
  unfold rot swapR
  repeat' split
  all_goals first | rfl | (exfalso; omega) | (congr 1; omega)
theorem rot_eq (f : Nat → Nat) (m i : Nat) (hi : i ≤ m) : swapR f (m - i) m i = rot f (m - i) m (m + i) := by
  funext x
  unfold rot swapR
  repeat' split
  all_goals first | rfl | (exfalso; omega) | (congr 1; omega)

theorem swapRange_int (g cap n : Nat) (x y z : Int) (a b k : Nat) (hx : x = (a : Int)) (hy : y = (b : Int)) (hz : z = (k : Int)) (cv : Value) (f : Nat → Nat) (w : World) (hr : Rw w g cap n f) (hab : a + k ≤ b) (hbn : b + k ≤ n) (hn : n ≤ 4096) :
    Calls Try.prog 38 #[.slice (some ⟨g, 0, none⟩) n cap, .int .i64 x, .int .i64 y, .int .i64 z, cv] w fun e w' => e = .returned (.tuple #[]) ∧ Rw w' g cap n (swapR f a b k) ∧ w.grownBy w' (some g) := by
  subst hx; subst hy; subst hz; exact swapRange_any g cap n a b k cv f w hr hab hbn hn

set_option maxRecDepth 100000 in
set_option maxHeartbeats 1000000 in
theorem rotate_any (g cap n a m b : Nat) (cv : Value) (f : Nat → Nat) (w : World) (hr : Rw w g cap n f) (ham : a < m) (hmb : m < b) (hbn : b ≤ n) (hn : n ≤ 4096) :
    Calls Try.prog 37 #[.slice (some ⟨g, 0, none⟩) n cap, .int .i64 a, .int .i64 m, .int .i64 b, cv] w fun e w' => e = .returned (.tuple #[]) ∧ Rw w' g cap n (rot f a m b) ∧ w.grownBy w' (some g) := by
  go_enter Try.func37, Try.ntmps37
  go_wp2
  go_loopw [10, 11] (fun vi vj wr => ∃ i j : Nat, 0 < i ∧ 0 < j ∧ i ≤ m - a ∧ j ≤ b - m ∧ vi = .int .i64 i ∧ vj = .int .i64 j ∧ (∃ f', Rw wr g cap n f' ∧ rot f' (m - i) m (m + j) = rot f a m b) ∧ w.grownBy wr (some g)) (fun vi vj _ => (intOf vi + intOf vj).toNat)
  case atStart => exact ⟨m - a, b - m, by omega, by omega, Nat.le_refl _, Nat.le_refl _, by go_num, by go_num, ⟨f, hr, by rw [show m - (m - a) = a by omega, show m + (b - m) = b by omega]⟩, grown_refl _ _⟩
  case round =>
    obtain ⟨i, j, hi, hj, hia, hjb, rfl, rfl, ⟨f', hrr, he⟩, hg⟩ := hrel
    have HE : Hid (rot f' (m - i) m (m + j) = rot f a m b) := he
    have HG : Hid (w.grownBy wr (some g)) := hg
    clear he hg
    by_cases hne : i = j
    · have hb : ((i : Int) != (j : Int)) = false := by simp; omega
      have HIJ : Hid (i = j) := hne
      clear hne
      go_wp2_with (go_at_call 38; refine (swapRange_int g cap n _ _ _ (m - i) m i ?_ ?_ ?_ _ f' _ hrr (by omega) (by have := HIJ.out; omega) hn).mono ?_; (omega); (rfl); (rfl); rintro e w1 ⟨rfl, hr1, hg1⟩)
      go_end0
      refine ⟨rfl, ?_, grown_trans HG.out hg1⟩
      rw [← HE.out, ← HIJ.out, ← rot_eq f' m i (by omega)]
      exact hr1
    · have hb : ((i : Int) != (j : Int)) = true := by rw [bne_iff_ne]; omega
      by_cases hgt : j < i
      · go_wp2_with (go_at_call 38; refine (swapRange_int g cap n _ _ _ (m - i) m j ?_ ?_ ?_ _ f' _ hrr (by omega) (by omega) hn).mono ?_; (omega); (rfl); (rfl); rintro e w1 ⟨rfl, hr1, hg1⟩)
        go_roundw
        case rel => exact ⟨i - j, j, by omega, by omega, by omega, by omega, by go_num, rfl, ⟨_, hr1, by rw [rot_gt f' m i j hgt (by omega)]; exact HE.out⟩, grown_trans HG.out hg1⟩
        case measure => simp [intOf]; omega
      · go_wp2_with (go_at_call 38; refine (swapRange_int g cap n _ _ _ (m - i) (m + j - i) i ?_ ?_ ?_ _ f' _ hrr (by omega) (by omega) hn).mono ?_; (omega); (omega); (rfl); rintro e w1 ⟨rfl, hr1, hg1⟩)
        go_roundw
        case rel => exact ⟨i, j - i, by omega, by omega, by omega, by omega, rfl, by go_num, ⟨_, hr1, by rw [rot_lt f' m i j (by omega) (by omega)]; exact HE.out⟩, grown_trans HG.out hg1⟩
        case measure => simp [intOf]; omega
end Go.Proofs.Qxb6616745a
