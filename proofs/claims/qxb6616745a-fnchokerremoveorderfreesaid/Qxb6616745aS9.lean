import Derived.Test.Qxb6616745aS8
namespace Go.Proofs.Qxb6616745a
open Go.RowKit

/-- Insertion sort of a run, empty or not, the ends as the walk spells them. -/
theorem insertion_run (g cap n a b : Nat) (x y : Int) (hx : x = (a : Int)) (hy : y = (b : Int)) (K : Nat → Int) (P : Nat → Prop) (f : Nat → Nat) (w : World) (hr : Rw w g cap n f) (hk : Keys w g K P) (hp : ∀ i, i < n → P (f i)) (hinc : ∀ i j, a ≤ i → i < j → j < b → f i < f j) (hab : a ≤ b) (hbn : b ≤ n) (hn : n ≤ 4096) :
    Calls Try.prog 35 #[.slice (some ⟨g, 0, none⟩) n cap, .int .i64 x, .int .i64 y, cmpF] w fun e w' => e = .returned (.tuple #[]) ∧ (∃ f', Rw w' g cap n f' ∧ Sorted K f' a b ∧ Same f f' a b) ∧ w.grownBy w' (some g) := by
  subst hx; subst hy
  by_cases h : a < b
  · exact insertion_any g cap n a b K P f w hr hk hp hinc h hbn hn
  · obtain rfl : a = b := by omega
    refine (insertion_nil g cap n a w (by omega) cmpF).mono ?_
    rintro e w' ⟨rfl, rfl⟩
    exact ⟨rfl, ⟨f, hr, sorted_nil (by omega), Same.refl _ _ _⟩, grown_refl _ _⟩
theorem sym_run (g cap n a m b : Nat) (x y z : Int) (hx : x = (a : Int)) (hy : y = (m : Int)) (hz : z = (b : Int)) (K : Nat → Int) (P : Nat → Prop) (f : Nat → Nat) (w : World) (hr : Rw w g cap n f) (hk : Keys w g K P) (hp : ∀ i, i < n → P (f i)) (hs1 : Sorted K f a m) (hs2 : Sorted K f m b) (hc : Cross f a m b) (ham : a < m) (hmb : m < b) (hbn : b ≤ n) (hn : n ≤ 4096) :
    Calls Try.prog 36 #[.slice (some ⟨g, 0, none⟩) n cap, .int .i64 x, .int .i64 y, .int .i64 z, cmpF] w fun e w' => e = .returned (.tuple #[]) ∧ (∃ f', Rw w' g cap n f' ∧ Sorted K f' a b ∧ Same f f' a b) ∧ w.grownBy w' (some g) := by
  subst hx; subst hy; subst hz
  exact sym_any g cap n K P hn (b - a) a m b (Nat.le_refl _) f w hr hk hp hs1 hs2 hc ham hmb hbn

set_option maxRecDepth 100000 in
set_option maxHeartbeats 2000000 in
theorem stable_any (g cap n : Nat) (K : Nat → Int) (P : Nat → Prop) (f : Nat → Nat) (w : World) (hr : Rw w g cap n f) (hk : Keys w g K P) (hp : ∀ i, i < n → P (f i)) (hinc : ∀ i j, i < j → j < n → f i < f j) (hn : n ≤ 4096) :
    Calls Try.prog 33 #[.slice (some ⟨g, 0, none⟩) n cap, .int .i64 n, cmpF] w fun e w' => e = .returned (.tuple #[]) ∧ (∃ f', Rw w' g cap n f' ∧ Sorted K f' 0 n ∧ Same f f' 0 n) ∧ w.grownBy w' (some g) := by
  have HK : Hid (Keys w g K P) := hk
  have HP : Hid (∀ i, i < n → P (f i)) := hp
  have HI : Hid (∀ i j, i < j → j < n → f i < f j) := hinc
  have HR0 : Hid (Rw w g cap n f) := hr
  clear hk hp hinc hr
  go_enter Try.func33, Try.ntmps33
  go_wp2
  go_loopw [7, 8] (fun va vb wr => ∃ a : Nat, a ≤ n ∧ va = .int .i64 a ∧ vb = .int .i64 ((a : Int) + 20) ∧ (∃ f', Rw wr g cap n f' ∧ P1 K f f' n a) ∧ w.grownBy wr (some g)) (fun va _ _ => ((n : Int) - intOf va).toNat)
  case atStart => exact ⟨0, by omega, rfl, rfl, ⟨f, HR0.out, P1.start HI.out⟩, grown_refl _ _⟩
  case round =>
    obtain ⟨a, han, rfl, rfl, ⟨f1, hr1, h1⟩, hg⟩ := hrel
    have HR1 : Hid (Rw wr g cap n f1) := hr1
    have H1 : Hid (P1 K f f1 n a) := h1
    have HG : Hid (w.grownBy wr (some g)) := hg
    have HP1 : Hid (∀ i, i < n → P (f1 i)) := same_all HP.out h1.2.2.2 han
    have HI1 : Hid (∀ i j, a ≤ i → i < j → j < n → f1 i < f1 j) := by
      intro i j p q r
      rw [h1.2.2.2.1 i (by omega), h1.2.2.2.1 j (by omega)]
      exact HI.out i j q r
    clear hr1 h1 hg
    by_cases hlt : a + 20 ≤ n
    · have hlt' : (a : Int) + 20 ≤ n := by omega
      go_wp2_with (go_at_call 35; refine (insertion_run g cap n a (a + 20) _ _ rfl (by omega) K P f1 _ HR1.out (HK.out.grown HG.out) HP1.out (fun i j p q r => HI1.out i j p q (by omega)) (by omega) hlt hn).mono ?_; rintro e w1 ⟨rfl, ⟨f2, hr2, hs2, hm2⟩, hg2⟩; have HR2 : Hid (Rw w1 g cap n f2) := hr2; have H2 : Hid (P1 K f f2 n (a + 20)) := H1.out.step hs2 hm2 hlt; have HG2 : Hid (w.grownBy w1 (some g)) := grown_trans HG.out hg2; clear hr2 hs2 hm2 hg2)
      go_roundw
      case rel => exact ⟨a + 20, by omega, by go_num, by go_num, ⟨f2, HR2.out, H2.out⟩, HG2.out⟩
      case measure => simp [intOf]; omega
    · have hlt' : decide ((a : Int) + 20 ≤ n) = false := by simp; omega
      go_wp2_with (go_at_call 35; refine (insertion_run g cap n a n _ _ rfl rfl K P f1 _ HR1.out (HK.out.grown HG.out) HP1.out HI1.out han (Nat.le_refl _) hn).mono ?_; rintro e w1 ⟨rfl, ⟨f2, hr2, hs2, hm2⟩, hg2⟩; have HR2 : Hid (Rw w1 g cap n f2) := hr2; have H2 : Hid (Blk K f f2 n 20) := H1.out.stop hs2 hm2 han (by omega); have HG2 : Hid (w.grownBy w1 (some g)) := grown_trans HG.out hg2; clear hr2 hs2 hm2 hg2)
      go_loopw [6] (fun vs wr => ∃ S : Nat, 20 ≤ S ∧ S ≤ 8192 ∧ vs = .int .i64 S ∧ (∃ f', Rw wr g cap n f' ∧ Blk K f f' n S) ∧ w.grownBy wr (some g)) (fun vs _ => ((n : Int) - intOf vs).toNat)
      case atStart => exact ⟨20, by omega, by omega, rfl, ⟨f2, HR2.out, H2.out⟩, HG2.out⟩
      case round =>
        obtain ⟨S, hS, hS', rfl, ⟨f3, hr3, h3⟩, hg3⟩ := hrel
        have HR3 : Hid (Rw wr g cap n f3) := hr3
        have H3 : Hid (Blk K f f3 n S) := h3
        have HG3 : Hid (w.grownBy wr (some g)) := hg3
        clear hr3 h3 hg3
        by_cases hlt2 : S < n
        · have hlt2' : (S : Int) < n := by omega
          go_wp2
          go_loopw [7, 8] (fun va vb wr => ∃ c : Nat, c ≤ n ∧ va = .int .i64 c ∧ vb = .int .i64 ((c : Int) + 2 * S) ∧ (∃ f', Rw wr g cap n f' ∧ In2 K f f' n S c) ∧ w.grownBy wr (some g)) (fun va _ _ => ((n : Int) - intOf va).toNat)
          case atStart => exact ⟨0, by omega, rfl, by go_num, ⟨f3, HR3.out, H3.out.start⟩, HG3.out⟩
          case round =>
            obtain ⟨c, hcn, rfl, rfl, ⟨f4, hr4, h4⟩, hg4⟩ := hrel
            have HR4 : Hid (Rw wr g cap n f4) := hr4
            have H4 : Hid (In2 K f f4 n S c) := h4
            have HG4 : Hid (w.grownBy wr (some g)) := hg4
            have HP4 : Hid (∀ i, i < n → P (f4 i)) := same_all HP.out h4.2.2.2.2.2 (Nat.le_refl _)
            clear hr4 h4 hg4
            by_cases hlt3 : c + 2 * S ≤ n
            · have hlt3' : (c : Int) + 2 * S ≤ n := by omega
              go_wp2_with (go_at_call 36; refine (sym_run g cap n c (c + S) (c + 2 * S) _ _ _ rfl (by omega) (by omega) K P f4 _ HR4.out (HK.out.grown HG4.out) HP4.out (H4.out.left (by omega)) (H4.out.right (by omega) (by omega)) (H4.out.cross hlt3) (by omega) (by omega) hlt3 hn).mono ?_; rintro e w2 ⟨rfl, ⟨f5, hr5, hs5, hm5⟩, hg5⟩; have HR5 : Hid (Rw w2 g cap n f5) := hr5; have H5 : Hid (In2 K f f5 n S (c + 2 * S)) := H4.out.step hs5 hm5 hlt3; have HG5 : Hid (w.grownBy w2 (some g)) := grown_trans HG4.out hg5; clear hr5 hs5 hm5 hg5)
              go_roundw
              case rel => exact ⟨c + 2 * S, hlt3, by go_num, by go_num, ⟨f5, HR5.out, H5.out⟩, HG5.out⟩
              case measure => simp [intOf]; omega
            · have hlt3' : decide ((c : Int) + 2 * S ≤ n) = false := by rw [decide_eq_false_iff_not]; omega
              by_cases hm : c + S < n
              · have hm' : (c : Int) + S < n := by omega
                go_wp2_with (go_at_call 36; refine (sym_run g cap n c (c + S) n _ _ _ rfl (by omega) rfl K P f4 _ HR4.out (HK.out.grown HG4.out) HP4.out (H4.out.left (by omega)) (H4.out.right (by omega) (by omega)) (H4.out.cross (Nat.le_refl _)) (by omega) hm (Nat.le_refl _) hn).mono ?_; rintro e w2 ⟨rfl, ⟨f5, hr5, hs5, hm5⟩, hg5⟩; have HR5 : Hid (Rw w2 g cap n f5) := hr5; have H5 : Hid (Blk K f f5 n (2 * S)) := H4.out.stop hs5 hm5 hcn (by omega); have HG5 : Hid (w.grownBy w2 (some g)) := grown_trans HG4.out hg5; clear hr5 hs5 hm5 hg5)
                go_roundw
                case rel => exact ⟨2 * S, by omega, by omega, by go_num, ⟨f5, HR5.out, H5.out⟩, HG5.out⟩
                case measure => simp [intOf]; omega
              · have hm' : decide ((c : Int) + S < n) = false := by rw [decide_eq_false_iff_not]; omega
                go_wp2
                go_roundw
                case rel => exact ⟨2 * S, by omega, by omega, by go_num, ⟨f4, HR4.out, H4.out.stop (H4.out.short (by omega)) (Same.refl _ _ _) hcn (by omega)⟩, HG4.out⟩
                case measure => simp [intOf]; omega
        · have hlt2' : decide ((S : Int) < n) = false := by simp; omega
          go_wp2
          go_end0
          obtain ⟨x1, x2⟩ := H3.out.stop (by omega)
          exact ⟨rfl, ⟨f3, HR3.out, x1, x2⟩, HG3.out⟩

set_option maxRecDepth 100000 in
set_option maxHeartbeats 2000000 in
theorem sort_any (g cap n : Nat) (K : Nat → Int) (P : Nat → Prop) (f : Nat → Nat) (w : World) (hr : Rw w g cap n f) (hk : Keys w g K P) (hp : ∀ i, i < n → P (f i)) (hinc : ∀ i j, i < j → j < n → f i < f j) (hn : n ≤ 4096) :
    Calls Try.prog 31 #[.slice (some ⟨g, 0, none⟩) n cap, cmpF] w fun e w' => e = .returned (.tuple #[]) ∧ (∃ f', Rw w' g cap n f' ∧ Sorted K f' 0 n ∧ Same f f' 0 n) ∧ w.grownBy w' (some g) := by
  have HK : Hid (Keys w g K P) := hk
  have HR : Hid (Rw w g cap n f) := hr
  clear hk hr
  go_enter Try.func31, Try.ntmps31
  go_wp2_with (go_at_call 33; refine (stable_any g cap n K P f _ HR.out HK.out hp hinc hn).mono ?_; rintro e w1 ⟨rfl, h1, hg⟩)
  go_end0
  exact ⟨rfl, h1, hg⟩
end Go.Proofs.Qxb6616745a
