import Derived.Test.Qxb6616745aS3
namespace Go.Proofs.Qxb6616745a
open Go.RowKit

theorem rot_step1 (f : Nat → Nat) (a k : Nat) (h : a ≤ k) : upd (upd (rot f a (a + 1) (k + 1)) k (f (k + 1))) (k + 1) (f a) = rot f a (a + 1) (k + 2) := by
  funext x
  unfold upd rot
  repeat' split
  all_goals first | rfl | (exfalso; omega) | (congr 1; omega)

set_option maxRecDepth 100000 in
set_option maxHeartbeats 2000000 in
theorem sym_left (g cap n a b : Nat) (K : Nat → Int) (P : Nat → Prop) (f : Nat → Nat) (w : World) (hr : Rw w g cap n f) (hk : Keys w g K P) (hp : ∀ i, i < n → P (f i)) (hs : Sorted K f (a + 1) b) (hc : Cross f a (a + 1) b) (hmb : a + 1 < b) (hbn : b ≤ n) (hn : n ≤ 4096) :
    Calls Try.prog 36 #[.slice (some ⟨g, 0, none⟩) n cap, .int .i64 a, .int .i64 ((a : Int) + 1), .int .i64 b, cmpF] w fun e w' => e = .returned (.tuple #[]) ∧ (∃ f', Rw w' g cap n f' ∧ Sorted K f' a b ∧ Same f f' a b) ∧ w.grownBy w' (some g) := by
  have h1 : ((a : Int) + 1 - a == 1) = true := by rw [beq_iff_eq]; omega
  have HS : Hid (Sorted K f (a + 1) b) := hs
  have HC : Hid (Cross f a (a + 1) b) := hc
  have HP : Hid (∀ i, i < n → P (f i)) := hp
  have HK : Hid (Keys w g K P) := hk
  clear hs hc hp hk
  go_enter Try.func36, Try.ntmps36
  go_wp2
  go_loopw [10, 11] (fun vi vj wr => ∃ i j : Nat, a + 1 ≤ i ∧ i ≤ j ∧ j ≤ b ∧ vi = .int .i64 i ∧ vj = .int .i64 j ∧ (a + 1 < i → Lt K (f (i - 1)) (f a)) ∧ (j < b → Lt K (f a) (f j)) ∧ Rw wr g cap n f ∧ w.grownBy wr (some g)) (fun vi vj _ => (intOf vj - intOf vi).toNat)
  case atStart => exact ⟨a + 1, b, Nat.le_refl _, by omega, Nat.le_refl _, by go_num, rfl, fun h => by omega, fun h => by omega, hr, grown_refl _ _⟩
  case round =>
    obtain ⟨i, j, hai, hij, hjb, rfl, rfl, hl, hh, hrr, hg⟩ := hrel
    have HL : Hid (a + 1 < i → Lt K (f (i - 1)) (f a)) := hl
    have HH : Hid (j < b → Lt K (f a) (f j)) := hh
    have HG : Hid (w.grownBy wr (some g)) := hg
    clear hl hh hg
    by_cases hlt : i < j
    · have hlt' : (i : Int) < (j : Int) := by omega
      go_wp2
      obtain ⟨h, hm⟩ : ∃ h : Nat, ((i : Int) + j) / 2 = h := ⟨(i + j) / 2, by omega⟩
      rw [hm]
      have hih : i ≤ h := by omega
      have hhj : h < j := by omega
      have EM : Hid (((i : Int) + j) / 2 = h) := hm
      clear hm
      have c1 := hrr.cell (i := h) (by omega)
      have c2 := hrr.cell (i := a) (by omega)
      have hhn : (h : Int) < (n : Int) := by omega
      have han : (a : Int) < (n : Int) := by omega
      have HRR : Hid (Rw wr g cap n f) := hrr
      have HKR : Hid (Keys wr g K P) := HK.out.grown HG.out
      clear hrr
      have hx := HP.out h (by omega)
      have hy := HP.out a (by omega)
      have HX : Hid (P (f h)) := hx
      have HY : Hid (P (f a)) := hy
      clear hx hy
      have hcr := HC.out a h (Nat.le_refl _) (by omega) (by omega) (by omega)
      by_cases hkk : K (f h) < K (f a)
      · have hd : decide (cmpv (K (f h)) (K (f a)) < 0) = true := by rw [cmpv_neg]; exact decide_eq_true hkk
        have HLT : Hid (Lt K (f h) (f a)) := (lt_right hcr).1 hkk
        clear hkk hcr
        go_region_held (fun w' => w'.cell? ⟨g, h, none⟩ = some (pv (f h)) ∧ w'.cell? ⟨g, a, none⟩ = some (pv (f a))) ((first | go_keep | exact ⟨cj1, ck1⟩)) ((go_at_call 32; refine (cmp_two HKR.out.drew HRR.out.drew h a _ _ (by omega) (by omega) rfl rfl HX.out HY.out).mono ?_; rintro e w1 ⟨rfl, cj1, ck1, hr1, hg⟩; have HG1 : Hid (w.grownBy w1 (some g)) := grown_trans (grown_drew HG.out) hg; have HR1 : Hid (Rw w1 g cap n f) := hr1; clear hg hr1))
        go_wp2
        go_roundw
        case rel => exact ⟨h + 1, j, by omega, by omega, hjb, by go_num, rfl, fun _ => HLT.out, HH.out, HR1.out, HG1.out⟩
        case measure => simp [intOf]; omega
      · have hd : decide (cmpv (K (f h)) (K (f a)) < 0) = false := by rw [cmpv_neg]; exact decide_eq_false hkk
        have HLT : Hid (Lt K (f a) (f h)) := (not_lt_right hcr).1 hkk
        clear hkk hcr
        go_region_held (fun w' => w'.cell? ⟨g, h, none⟩ = some (pv (f h)) ∧ w'.cell? ⟨g, a, none⟩ = some (pv (f a))) ((first | go_keep | exact ⟨cj1, ck1⟩)) ((go_at_call 32; refine (cmp_two HKR.out.drew HRR.out.drew h a _ _ (by omega) (by omega) rfl rfl HX.out HY.out).mono ?_; rintro e w1 ⟨rfl, cj1, ck1, hr1, hg⟩; have HG1 : Hid (w.grownBy w1 (some g)) := grown_trans (grown_drew HG.out) hg; have HR1 : Hid (Rw w1 g cap n f) := hr1; clear hg hr1))
        go_wp2
        go_roundw
        case rel => exact ⟨i, h, by omega, by omega, by omega, rfl, rfl, HL.out, fun _ => HLT.out, HR1.out, HG1.out⟩
        case measure => simp [intOf]; omega
    · have hlt' : decide ((i : Int) < (j : Int)) = false := by simp; omega
      obtain rfl : i = j := by omega
      go_wp2
      go_loopw [13] (fun vk wr => ∃ k : Nat, a ≤ k ∧ k < i ∧ vk = .int .i64 k ∧ Rw wr g cap n (rot f a (a + 1) (k + 1)) ∧ w.grownBy wr (some g)) (fun vk _ => ((i : Int) - intOf vk).toNat)
      case atStart => exact ⟨a, Nat.le_refl _, by omega, rfl, hrr.congr (fun x _ => by rw [rot_triv (.inr ⟨rfl, by omega⟩)]), HG.out⟩
      case round =>
        obtain ⟨k, hak, hki, rfl, hrk, hgk⟩ := hrel
        have HGK : Hid (w.grownBy wr (some g)) := hgk
        clear hgk
        by_cases hlast : k + 1 < i
        · have hlast' : (k : Int) < (i : Int) - 1 := by omega
          have c1 := hrk.cell (i := k) (by omega)
          have c2 := hrk.cell (i := k + 1) (by omega)
          rw [rot_right (by omega) (by omega), show k - (k + 1 - (a + 1)) = a by omega] at c1
          rw [rot_out (by omega) (by omega)] at c2
          have fz1 := hrk.fz k
          have fz2 := hrk.fz (k + 1)
          have hne : ¬ k = k + 1 := by omega
          have hne' : ¬ k + 1 = k := by omega
          have q1 : (k : Int) < (n : Int) := by omega
          have q2 : (k : Int) + 1 < (n : Int) := by omega
          have q3 : (0 : Int) ≤ (k : Int) + 1 := by omega
          have HRK : Hid (Rw wr g cap n (rot f a (a + 1) (k + 1))) := hrk
          clear hrk hrr hr
          go_wp2
          go_region
          go_wp2
          go_roundw
          case rel =>
            refine ⟨k + 1, by omega, by omega, by go_num, ?_, ?_⟩
            · rw [← rot_step1 f a k hak]
              exact ((HRK.out.set k _ (by omega)).set (k + 1) _ (by omega)).drew
            · exact grown_drew (grown_trans (grown_trans HGK.out (grown_set _ _ _ _)) (grown_set _ _ _ _))
          case measure => simp [intOf]; omega
        · have hlast' : decide ((k : Int) < (i : Int) - 1) = false := by rw [decide_eq_false_iff_not]; omega
          go_wp2
          refine bodyPost_ret (results_none rfl _ _ _) rfl ?_
          obtain rfl : i = k + 1 := by omega
          exact ⟨rfl, ⟨_, hrk, ins_first HS.out (by omega) hjb HL.out HH.out, (rot_same f (by omega) (by omega)).widen (Nat.le_refl _) (by omega)⟩, HGK.out⟩
end Go.Proofs.Qxb6616745a
