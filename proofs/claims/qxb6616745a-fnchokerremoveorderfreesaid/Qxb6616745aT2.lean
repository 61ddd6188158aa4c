import Derived.Test.Qxb6616745aT1
namespace Go.Proofs.Qxb6616745a
open Go.RowKit

theorem grown_alloc (w : World) (o : Obj) (r : Option Nat) : w.grownBy (w.alloc o) r := World.grownBy_alloc w o r
theorem grown_alloc2 (w : World) (o o' : Obj) (r : Option Nat) : w.grownBy ((w.alloc o).alloc o') r := grown_trans (grown_alloc w o r) (grown_alloc _ o' r)

abbrev tv (x y : Int) : Value := .agg #[.int .u64 x, .int .i64 y, .pointer none]

set_option maxRecDepth 100000 in
set_option maxHeartbeats 2000000 in
theorem addSec_any (b : Nat) (x d : Int) (w : World) (h : w.cell? ⟨b, 0, none⟩ = some (.int .u64 x)) (hy : w.cell? ⟨b, 1, none⟩ = some (.int .i64 0)) (hf : w.frozen? ⟨b, 1, none⟩ = false) (h0 : 0 ≤ x) (h1 : x < 1000000000) (hd : -9223372036854775808 ≤ d) (hd' : d ≤ 9223372036854775807) :
    Calls Try.prog 24 #[.pointer (some ⟨b, 0, none⟩), .int .i64 d] w fun e w' => e = .returned (.tuple #[]) ∧ w' = w.setCell ⟨b, 1, none⟩ (.int .i64 d) := by
  have ht := top_ne h0 h1
  go_enter Try.func24, Try.ntmps24
  go_wp2
  go_end0
  exact ⟨rfl, rfl⟩

set_option maxRecDepth 100000 in
set_option maxHeartbeats 4000000 in
theorem add_pos (l d r : Int) (w : World) (hq : l.tdiv 1000000000 = d) (hr : l.tmod 1000000000 = r) (_hl : -9223372036854775808 ≤ l) (_hl' : l ≤ 9223372036854775807) (r0 : 0 ≤ r) (r1 : r < 1000000000) (d0 : -9223372036854775808 ≤ d) (d1 : d ≤ 9223372036854775807) :
    Calls Try.prog 20 #[tv 0 0, .int .i64 l] w fun e w' => e = .returned (tv r d) ∧ w.grownBy w' none := by
  have han : bits BinOp.andNot IntKind.u64 0 1073741823 = 0 := by decide
  have ho := or_zero r0 r1
  have ht := top_ne r0 r1
  go_enter Try.func20, Try.ntmps20
  go_wp2_with (first | (go_at_call 23; refine (nsec_any _ 0 _ ?_ (by decide) (by decide)).mono ?_; (go_simp); rintro e w1 ⟨rfl, rfl⟩) | (go_at_call 24; refine (addSec_any _ r d _ ?_ ?_ ?_ r0 r1 d0 d1).mono ?_; (go_simp); (go_simp); (go_simp); rintro e w1 ⟨rfl, rfl⟩))
  refine bodyPost_ret (by simp [results, Try.results20, go_sem]; try rfl) rfl ?_
  exact ⟨rfl, grown_alloc2 _ _ _ _⟩

set_option maxRecDepth 100000 in
set_option maxHeartbeats 4000000 in
theorem add_neg (l d r d' r' : Int) (w : World) (hq : l.tdiv 1000000000 = d) (hr : l.tmod 1000000000 = r) (_hl : -9223372036854775808 ≤ l) (_hl' : l ≤ 9223372036854775807) (r0 : r < 0) (r1 : -1000000000 < r) (d0 : -9223372036854775807 ≤ d) (d1 : d ≤ 9223372036854775807) (hd' : d - 1 = d') (hr' : r + 1000000000 = r') :
    Calls Try.prog 20 #[tv 0 0, .int .i64 l] w fun e w' => e = .returned (tv r' d') ∧ w.grownBy w' none := by
  have han : bits BinOp.andNot IntKind.u64 0 1073741823 = 0 := by decide
  have s0 : 0 ≤ r' := by omega
  have s1 : r' < 1000000000 := by omega
  have ho := or_zero s0 s1
  have ht := top_ne s0 s1
  have e0 : -9223372036854775808 ≤ d' := by omega
  have e1 : d' ≤ 9223372036854775807 := by omega
  go_enter Try.func20, Try.ntmps20
  go_wp2_with (first | (go_at_call 23; refine (nsec_any _ 0 _ ?_ (by decide) (by decide)).mono ?_; (go_simp); rintro e w1 ⟨rfl, rfl⟩) | (go_at_call 24; refine (addSec_any _ r' d' _ ?_ ?_ ?_ s0 s1 e0 e1).mono ?_; (go_simp); (go_simp); (go_simp); rintro e w1 ⟨rfl, rfl⟩))
  refine bodyPost_ret (by simp [results, Try.results20, go_sem]; try rfl) rfl ?_
  exact ⟨rfl, grown_alloc2 _ _ _ _⟩

theorem add_any (l : Int) (w : World) (hl : -9223372036854775808 ≤ l) (hl' : l ≤ 9223372036854775807) :
    Calls Try.prog 20 #[tv 0 0, .int .i64 l] w fun e w' => e = .returned (tv (l % 1000000000) (l / 1000000000)) ∧ w.grownBy w' none := by
  by_cases h : 0 ≤ l
  · obtain ⟨h1, h2⟩ := quo_pos h
    exact add_pos l _ _ w h1 h2 hl hl' (by omega) (by omega) (by omega) (by omega)
  · obtain ⟨h1, h2⟩ := quo_neg (l := l) (by omega)
    by_cases hz : (-l) % 1000000000 = 0
    · rw [hz] at h2
      have h := add_pos l _ _ w h1 h2 hl hl' (by omega) (by omega) (by omega) (by omega)
      rw [show l % 1000000000 = -0 by omega, show l / 1000000000 = -((-l) / 1000000000) by omega]
      exact h
    · have h := add_neg l _ _ (l / 1000000000) (l % 1000000000) w h1 h2 hl hl' (by omega) (by omega) (by omega) (by omega) (by omega) (by omega)
      exact h

set_option maxRecDepth 100000 in
set_option maxHeartbeats 4000000 in
/-- A new slot. -/
theorem newSlot_any (i u : Bool) (l : Int) (w : World) (hl : -9223372036854775808 ≤ l) (hl' : l ≤ 9223372036854775807) :
    Calls Try.prog 8 #[.bool i, .bool u, .int .i64 l] w fun e w' => ∃ b, e = .returned (.pointer (some ⟨b, 0, none⟩)) ∧ w.heap.size ≤ b ∧ Sl w' b i u l ∧ w.grownBy w' none := by
  go_enter Try.func8, Try.ntmps8
  go_wp2_with (go_at_call 20; refine (add_any l _ hl hl').mono ?_; rintro e w1 ⟨rfl, hg⟩)
  go_ret
  refine ⟨w1.heap.size, rfl, hg.size, ?_, grown_trans hg (grown_alloc _ _ _)⟩
  exact Array.getElem?_push_size
end Go.Proofs.Qxb6616745a
