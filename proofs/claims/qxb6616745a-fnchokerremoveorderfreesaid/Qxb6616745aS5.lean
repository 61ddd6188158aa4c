import Derived.Test.Qxb6616745aS4
namespace Go.Proofs.Qxb6616745a
open Go.RowKit

set_option maxRecDepth 100000 in
set_option maxHeartbeats 2000000 in
theorem sym_right (g cap n a m : Nat) (K : Nat → Int) (P : Nat → Prop) (f : Nat → Nat) (w : World) (hr : Rw w g cap n f) (hk : Keys w g K P) (hp : ∀ i, i < n → P (f i)) (hs : Sorted K f a m) (hc : Cross f a m (m + 1)) (ham : a + 1 < m) (hbn : m + 1 ≤ n) (hn : n ≤ 4096) :
    Calls Try.prog 36 #[.slice (some ⟨g, 0, none⟩) n cap, .int .i64 a, .int .i64 m, .int .i64 ((m : Int) + 1), cmpF] w fun e w' => e = .returned (.tuple #[]) ∧ (∃ f', Rw w' g cap n f' ∧ Sorted K f' a (m + 1) ∧ Same f f' a (m + 1)) ∧ w.grownBy w' (some g) := by
  have h1 : ((m : Int) - a == 1) = false := by rw [beq_eq_false_iff_ne]; omega
  have h2 : ((m : Int) + 1 - m == 1) = true := by rw [beq_iff_eq]; omega
  have HS : Hid (Sorted K f a m) := hs
  have HC : Hid (Cross f a m (m + 1)) := hc
  have HP : Hid (∀ i, i < n → P (f i)) := hp
  have HK : Hid (Keys w g K P) := hk
  clear hs hc hp hk
  go_enter Try.func36, Try.ntmps36
  go_wp2
  go_loopw [14, 15] (fun vi vj wr => ∃ i j : Nat, a ≤ i ∧ i ≤ j ∧ j ≤ m ∧ vi = .int .i64 i ∧ vj = .int .i64 j ∧ (a < i → Lt K (f (i - 1)) (f m)) ∧ (j < m → Lt K (f m) (f j)) ∧ Rw wr g cap n f ∧ w.grownBy wr (some g)) (fun vi vj _ => (intOf vj - intOf vi).toNat)
  case atStart => exact ⟨a, m, Nat.le_refl _, by omega, Nat.le_refl _, rfl, rfl, fun h => by omega, fun h => by omega, hr, grown_refl _ _⟩
  case round =>
    obtain ⟨i, j, hai, hij, hjb, rfl, rfl, hl, hh, hrr, hg⟩ := hrel
    have HL : Hid (a < i → Lt K (f (i - 1)) (f m)) := hl
    have HH : Hid (j < m → Lt K (f m) (f j)) := hh
    have HG : Hid (w.grownBy wr (some g)) := hg
    clear hl hh hg
    by_cases hlt : i < j
    · have hlt' : (i : Int) < (j : Int) := by omega
      go_wp2
      obtain ⟨h, hm⟩ : ∃ h : Nat, ((i : Int) + j) / 2 = h := ⟨(i + j) / 2, by omega⟩
      rw [hm]
      have hih : i ≤ h := by omega
      have hhj : h < j := by omega
      have EM : Hid (((i : Int) + j) / 2 = h) := hm
      clear hm
      have c1 := hrr.cell (i := h) (by omega)
      have c2 := hrr.cell (i := m) (by omega)
      have hhn : (h : Int) < (n : Int) := by omega
      have hmn : (m : Int) < (n : Int) := by omega
      have HRR : Hid (Rw wr g cap n f) := hrr
      have HKR : Hid (Keys wr g K P) := HK.out.grown HG.out
      clear hrr
      have hx := HP.out h (by omega)
      have hy := HP.out m (by omega)
      have HX : Hid (P (f h)) := hx
      have HY : Hid (P (f m)) := hy
      clear hx hy
      have hcr := HC.out h m (by omega) (by omega) (by omega) (by omega)
      by_cases hkk : K (f m) < K (f h)
      · have hd : decide (cmpv (K (f m)) (K (f h)) < 0) = true := by rw [cmpv_neg]; exact decide_eq_true hkk
        have HLT : Hid (Lt K (f m) (f h)) := (lt_right hcr).1 hkk
        clear hkk hcr
        go_region_held (fun w' => w'.cell? ⟨g, m, none⟩ = some (pv (f m)) ∧ w'.cell? ⟨g, h, none⟩ = some (pv (f h))) ((first | go_keep | exact ⟨cj1, ck1⟩)) ((go_at_call 32; refine (cmp_two HKR.out.drew HRR.out.drew m h _ _ (by omega) (by omega) rfl rfl HY.out HX.out).mono ?_; rintro e w1 ⟨rfl, cj1, ck1, hr1, hg⟩; have HG1 : Hid (w.grownBy w1 (some g)) := grown_trans (grown_drew HG.out) hg; have HR1 : Hid (Rw w1 g cap n f) := hr1; clear hg hr1))
        go_wp2
        go_roundw
        case rel => exact ⟨i, h, by omega, by omega, by omega, rfl, rfl, HL.out, fun _ => HLT.out, HR1.out, HG1.out⟩
        case measure => simp [intOf]; omega
      · have hd : decide (cmpv (K (f m)) (K (f h)) < 0) = false := by rw [cmpv_neg]; exact decide_eq_false hkk
        have HLT : Hid (Lt K (f h) (f m)) := (not_lt_right hcr).1 hkk
        clear hkk hcr
        go_region_held (fun w' => w'.cell? ⟨g, m, none⟩ = some (pv (f m)) ∧ w'.cell? ⟨g, h, none⟩ = some (pv (f h))) ((first | go_keep | exact ⟨cj1, ck1⟩)) ((go_at_call 32; refine (cmp_two HKR.out.drew HRR.out.drew m h _ _ (by omega) (by omega) rfl rfl HY.out HX.out).mono ?_; rintro e w1 ⟨rfl, cj1, ck1, hr1, hg⟩; have HG1 : Hid (w.grownBy w1 (some g)) := grown_trans (grown_drew HG.out) hg; have HR1 : Hid (Rw w1 g cap n f) := hr1; clear hg hr1))
        go_wp2
        go_roundw
        case rel => exact ⟨h + 1, j, by omega, by omega, hjb, by go_num, rfl, fun _ => HLT.out, HH.out, HR1.out, HG1.out⟩
        case measure => simp [intOf]; omega
    · have hlt' : decide ((i : Int) < (j : Int)) = false := by simp; omega
      obtain rfl : i = j := by omega
      go_wp2
      go_loopw [17] (fun vk wr => ∃ k : Nat, i ≤ k ∧ k ≤ m ∧ vk = .int .i64 k ∧ Rw wr g cap n (rot f k m (m + 1)) ∧ w.grownBy wr (some g)) (fun vk _ => (intOf vk).toNat)
      case atStart => exact ⟨m, by omega, Nat.le_refl _, rfl, hrr.congr (fun x _ => by rw [rot_triv (.inl ⟨rfl, by omega⟩)]), HG.out⟩
      case round =>
        obtain ⟨j, hak, hki, rfl, hrk, hgk⟩ := hrel
        have HGK : Hid (w.grownBy wr (some g)) := hgk
        clear hgk
        by_cases hlast : i < j
        · obtain ⟨k, rfl⟩ : ∃ k, j = k + 1 := ⟨j - 1, by omega⟩
          have hlast' : (i : Int) < (k : Int) + 1 := by omega
          have c1 := hrk.cell (i := k + 1) (by omega)
          have c2 := hrk.cell (i := k) (by omega)
          rw [rot_left (by omega) (by omega), show k + 1 + (m - (k + 1)) = m by omega] at c1
          rw [rot_out (by omega) (by omega)] at c2
          have fz1 := hrk.fz k
          have fz2 := hrk.fz (k + 1)
          have hne : ¬ k = k + 1 := by omega
          have hne' : ¬ k + 1 = k := by omega
          have q1 : (k : Int) < (n : Int) := by omega
          have q2 : (k : Int) + 1 < (n : Int) := by omega
          have q3 : (0 : Int) ≤ (k : Int) + 1 := by omega
          have HRK : Hid (Rw wr g cap n (rot f (k + 1) m (m + 1))) := hrk
          clear hrk hrr hr
          go_wp2
          go_region
          go_wp2
          go_roundw
          case rel =>
            refine ⟨k, by omega, by omega, by go_num, ?_, ?_⟩
            · rw [← rot_step f m k hki]
              exact ((HRK.out.set (k + 1) _ (by omega)).set k _ (by omega)).drew
            · exact grown_drew (grown_trans (grown_trans HGK.out (grown_set _ _ _ _)) (grown_set _ _ _ _))
          case measure => simp [intOf]
        · have hlast' : decide ((i : Int) < (j : Int)) = false := by rw [decide_eq_false_iff_not]; omega
          go_wp2
          refine bodyPost_ret (results_none rfl _ _ _) rfl ?_
          obtain rfl : i = j := by omega
          exact ⟨rfl, ⟨_, hrk, ins_sorted HS.out hai hki HL.out HH.out, (rot_same f (by omega) (by omega)).widen hai (Nat.le_refl _)⟩, HGK.out⟩
end Go.Proofs.Qxb6616745a
