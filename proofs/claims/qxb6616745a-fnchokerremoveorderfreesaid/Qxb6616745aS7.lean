import Derived.Test.Qxb6616745aS6
namespace Go.Proofs.Qxb6616745a
open Go.RowKit

set_option maxRecDepth 100000 in
set_option maxHeartbeats 4000000 in
theorem sym_gen2 (g cap n a m b : Nat) (K : Nat → Int) (P : Nat → Prop) (hn : n ≤ 4096) (IH : ∀ a' m' b', b' - a' < b - a → SymSaid g cap n K P a' m' b') (ham : a + 1 < m) (hmb : m + 1 < b) (mid : Nat) (hmid : ((a : Int) + b) / 2 = mid) (hcase : ¬ mid < m) : SymSaid g cap n K P a m b := by
  intro f w hr hk hp hs1 hs2 hc _ _ hbn
  have h1 : ((m : Int) - a == 1) = false := by rw [beq_eq_false_iff_ne]; omega
  have h2 : ((b : Int) - m == 1) = false := by rw [beq_eq_false_iff_ne]; omega
  have HIH : Hid (∀ a' m' b', b' - a' < b - a → SymSaid g cap n K P a' m' b') := IH
  have HS1 : Hid (Sorted K f a m) := hs1
  have HS2 : Hid (Sorted K f m b) := hs2
  have HC : Hid (Cross f a m b) := hc
  have HP : Hid (∀ i, i < n → P (f i)) := hp
  have HK : Hid (Keys w g K P) := hk
  clear hs1 hs2 hc hp hk IH
  obtain ⟨nn, hnn⟩ : ∃ nn : Nat, (mid : Int) + m = nn := ⟨mid + m, by omega⟩
  obtain ⟨pp, hpp⟩ : ∃ pp : Nat, (nn : Int) - 1 = pp := ⟨nn - 1, by omega⟩
  have hcase' : ¬ ((a : Int) + b) / 2 < (m : Int) := by omega
  go_enter Try.func36, Try.ntmps36
  go_wp2
  obtain ⟨s0, hs0⟩ : ∃ s0 : Nat, s0 = a := ⟨_, rfl⟩
  obtain ⟨r0, hr0⟩ : ∃ r0 : Nat, r0 = m := ⟨_, rfl⟩
  have hfa : a ≤ s0 := by omega
  have hfb : nn ≤ s0 + b := by omega
  have hfc : r0 ≤ m := by omega
  have hfd : r0 ≤ mid := by omega
  have hfe : s0 ≤ r0 := by omega
  have HE : Hid ((s0 = a ∧ r0 = m) ∨ (s0 + b = nn ∧ r0 = mid)) := .inl (by omega)
  have HST : Hid (Value.int .i64 (a : Int) = .int .i64 s0 ∧ Value.int .i64 (m : Int) = .int .i64 r0) := ⟨by rw [hs0], by rw [hr0]⟩
  go_loopw [20, 21] (fun vs vr wr => ∃ s r : Nat, s0 ≤ s ∧ s ≤ r ∧ r ≤ r0 ∧ vs = .int .i64 s ∧ vr = .int .i64 r ∧ (s0 < s → Lt K (f (s - 1)) (f (nn - s))) ∧ (r < r0 → Lt K (f (nn - 1 - r)) (f r)) ∧ Rw wr g cap n f ∧ w.grownBy wr (some g)) (fun vs vr _ => (intOf vr - intOf vs).toNat)
  case atStart => exact ⟨s0, r0, Nat.le_refl _, hfe, Nat.le_refl _, HST.out.1, HST.out.2, fun h => by omega, fun h => by omega, hr, grown_refl _ _⟩
  case round =>
    obtain ⟨s, r, hs0s, hsr, hrr0, rfl, rfl, hl, hh, hrr, hg⟩ := hrel
    have HL : Hid (s0 < s → Lt K (f (s - 1)) (f (nn - s))) := hl
    have HH : Hid (r < r0 → Lt K (f (nn - 1 - r)) (f r)) := hh
    have HG : Hid (w.grownBy wr (some g)) := hg
    clear hl hh hg
    by_cases hlt : s < r
    · have hlt' : (s : Int) < (r : Int) := by omega
      obtain ⟨c, hm⟩ : ∃ c : Nat, ((s : Int) + r) / 2 = c := ⟨(s + r) / 2, by omega⟩
      obtain ⟨q, hq⟩ : ∃ q : Nat, q + c + 1 = nn := ⟨nn - 1 - c, by omega⟩
      have hsc : s ≤ c := by omega
      have hcr : c < r := by omega
      have hqm : m ≤ q := by omega
      have hqb : q < b := by omega
      have EN : Hid (nn - 1 - c = q ∧ nn - (c + 1) = q) := by constructor <;> omega
      have hw : IntKind.i64.wrap ((pp : Int) - c) = q := by rw [IntWalk.i64_in _ (by omega)]; omega
      go_wp2
      clear hm
      have c1 := hrr.cell (i := q) (by omega)
      have c2 := hrr.cell (i := c) (by omega)
      have hqn : (q : Int) < (n : Int) := by omega
      have hcn : (c : Int) < (n : Int) := by omega
      have HRR : Hid (Rw wr g cap n f) := hrr
      have HKR : Hid (Keys wr g K P) := HK.out.grown HG.out
      clear hrr hr
      have hx := HP.out q (by omega)
      have hy := HP.out c (by omega)
      have HX : Hid (P (f q)) := hx
      have HY : Hid (P (f c)) := hy
      clear hx hy
      have hcr' := HC.out c q (by omega) (by omega) (by omega) (by omega)
      by_cases hkk : K (f q) < K (f c)
      · have hd : decide (cmpv (K (f q)) (K (f c)) < 0) = true := by rw [cmpv_neg]; exact decide_eq_true hkk
        have HLT : Hid (Lt K (f q) (f c)) := (lt_right hcr').1 hkk
        clear hkk hcr'
        go_region_held (fun w' => w'.cell? ⟨g, q, none⟩ = some (pv (f q)) ∧ w'.cell? ⟨g, c, none⟩ = some (pv (f c))) ((first | go_keep | exact ⟨cj1, ck1⟩)) ((go_at_call 32; refine (cmp_two HKR.out.drew HRR.out.drew q c _ _ (by omega) (by omega) rfl rfl HX.out HY.out).mono ?_; rintro e w1 ⟨rfl, cj1, ck1, hr1, hg⟩; have HG1 : Hid (w.grownBy w1 (some g)) := grown_trans (grown_drew HG.out) hg; have HR1 : Hid (Rw w1 g cap n f) := hr1; clear hg hr1))
        go_wp2
        go_roundw
        case rel => exact ⟨s, c, by omega, by omega, by omega, rfl, rfl, HL.out, fun _ => by rw [EN.out.1]; exact HLT.out, HR1.out, HG1.out⟩
        case measure => simp [intOf]; omega
      · have hd : decide (cmpv (K (f q)) (K (f c)) < 0) = false := by rw [cmpv_neg]; exact decide_eq_false hkk
        have HLT : Hid (Lt K (f c) (f q)) := (not_lt_right hcr').1 hkk
        clear hkk hcr'
        go_region_held (fun w' => w'.cell? ⟨g, q, none⟩ = some (pv (f q)) ∧ w'.cell? ⟨g, c, none⟩ = some (pv (f c))) ((first | go_keep | exact ⟨cj1, ck1⟩)) ((go_at_call 32; refine (cmp_two HKR.out.drew HRR.out.drew q c _ _ (by omega) (by omega) rfl rfl HX.out HY.out).mono ?_; rintro e w1 ⟨rfl, cj1, ck1, hr1, hg⟩; have HG1 : Hid (w.grownBy w1 (some g)) := grown_trans (grown_drew HG.out) hg; have HR1 : Hid (Rw w1 g cap n f) := hr1; clear hg hr1))
        go_wp2
        go_roundw
        case rel => exact ⟨c + 1, r, by omega, by omega, by omega, by go_num, rfl, fun _ => by rw [EN.out.2]; exact HLT.out, HH.out, HR1.out, HG1.out⟩
        case measure => simp [intOf]; omega
    · have hlt' : decide ((s : Int) < (r : Int)) = false := by simp; omega
      obtain rfl : s = r := by omega
      obtain ⟨e, he⟩ : ∃ e : Nat, (nn : Int) - s = e := ⟨nn - s, by omega⟩
      have hsm : s ≤ m := by omega
      have hme : m ≤ e := by omega
      have heb : e ≤ b := by omega
      have hsmid : s ≤ mid := by omega
      have hmide : mid ≤ e := by omega
      have hmb' : mid < b := by omega
      have ham' : a < mid := by omega
      have has : a ≤ s := by omega
      have q1 : a < s → e < b → Lt K (f (s - 1)) (f e) := fun g1 g2 => by
        have := HE.out
        have h3 := HL.out (by omega)
        rw [show nn - s = e by omega] at h3
        exact h3
      have q2 : s < m → m < e → Lt K (f (e - 1)) (f s) := fun g1 g2 => by
        have := HE.out
        have h3 := HH.out (by omega)
        rw [show nn - 1 - s = e - 1 by omega] at h3
        exact h3
      have HCUT : Hid (Sorted K (rot f s m e) a s ∧ Sorted K (rot f s m e) s mid ∧ Cross (rot f s m e) a s mid ∧ Sorted K (rot f s m e) mid e ∧ Sorted K (rot f s m e) e b ∧ Cross (rot f s m e) mid e b ∧ (∀ i j, a ≤ i → i < mid → mid ≤ j → j < b → Lt K (rot f s m e i) (rot f s m e j))) :=
        cut_halves HS1.out HS2.out HC.out has hsm hme heb (by omega) q1 q2
      clear q1 q2
      have HSF : Hid (Same f (rot f s m e) a b) := (rot_same f hsm hme).widen has heb
      have HPF : Hid (∀ i, i < n → P (rot f s m e i)) := same_all HP.out HSF.out hbn
      have HR : Hid (Rw wr g cap n f) := hrr
      clear hrr hr
      by_cases b1 : s < m ∧ m < e
      · have d1 : (s : Int) < m ∧ (m : Int) < e := by omega
        by_cases b2 : a < s ∧ s < mid
        · by_cases b3 : mid < e ∧ e < b
          · have d3 : (mid : Int) < e ∧ (e : Int) < b := by omega
            go_wp2_with (first | (go_at_call 37; refine (rotate_any g cap n s m e _ f _ HR.out b1.1 b1.2 (by omega) hn).mono ?_; rintro _ w1 ⟨rfl, ha, hga⟩; have HA : Hid (Rw w1 g cap n (rot f s m e)) := ha; have HGA : Hid (w.grownBy w1 (some g)) := grown_trans HG.out hga; clear ha hga) | (go_at_call 36; refine (HIH.out mid e b (by omega) _ _ HB.out.1 (HK.out.grown HGB.out) (same_all HPF.out HB.out.2.2 (by omega)) (HCUT.out.2.2.2.1.congr fun i _ _ => HB.out.2.2.1 i (by omega)) (HCUT.out.2.2.2.2.1.congr fun i _ _ => HB.out.2.2.1 i (by omega)) (HCUT.out.2.2.2.2.2.1.congr (fun i _ _ => HB.out.2.2.1 i (by omega)) hmide heb) b3.1 b3.2 hbn).mono ?_; rintro _ w3 ⟨rfl, ⟨f2, hb, hs, hsa⟩, hgb⟩; have HC3 : Hid (Rw w3 g cap n f2 ∧ Sorted K f2 mid b ∧ Same f1 f2 mid b) := ⟨hb, hs, hsa⟩; have HGC : Hid (w.grownBy w3 (some g)) := grown_trans HGB.out hgb; clear hb hs hsa hgb) | (go_at_call 36; refine (HIH.out a s mid (by omega) _ _ HA.out (HK.out.grown HGA.out) HPF.out HCUT.out.1 HCUT.out.2.1 HCUT.out.2.2.1 b2.1 b2.2 (by omega)).mono ?_; rintro _ w2 ⟨rfl, ⟨f1, hb, hs, hsa⟩, hgb⟩; have HB : Hid (Rw w2 g cap n f1 ∧ Sorted K f1 a mid ∧ Same (rot f s m e) f1 a mid) := ⟨hb, hs, hsa⟩; have HGB : Hid (w.grownBy w2 (some g)) := grown_trans HGA.out hgb; clear hb hs hsa hgb))
            all_goals
              go_end0
              obtain ⟨x1, x2⟩ := sym_fin HSF.out HB.out.2.1 HB.out.2.2 HC3.out.2.1 HC3.out.2.2 HCUT.out.2.2.2.2.2.2 (by omega) (by omega)
              exact ⟨rfl, ⟨_, HC3.out.1, x1, x2⟩, HGC.out⟩
          · have d3 : True := trivial
            go_wp2_with (first | (go_at_call 37; refine (rotate_any g cap n s m e _ f _ HR.out b1.1 b1.2 (by omega) hn).mono ?_; rintro _ w1 ⟨rfl, ha, hga⟩; have HA : Hid (Rw w1 g cap n (rot f s m e)) := ha; have HGA : Hid (w.grownBy w1 (some g)) := grown_trans HG.out hga; clear ha hga) | (go_at_call 36; refine (HIH.out a s mid (by omega) _ _ HA.out (HK.out.grown HGA.out) HPF.out HCUT.out.1 HCUT.out.2.1 HCUT.out.2.2.1 b2.1 b2.2 (by omega)).mono ?_; rintro _ w2 ⟨rfl, ⟨f1, hb, hs, hsa⟩, hgb⟩; have HB : Hid (Rw w2 g cap n f1 ∧ Sorted K f1 a mid ∧ Same (rot f s m e) f1 a mid) := ⟨hb, hs, hsa⟩; have HGB : Hid (w.grownBy w2 (some g)) := grown_trans HGA.out hgb; clear hb hs hsa hgb; have HC3 : Hid (Rw w2 g cap n f1 ∧ Sorted K f1 mid b ∧ Same f1 f1 mid b) := ⟨HB.out.1, sorted_left_empty (HCUT.out.2.2.2.1.congr fun i _ _ => HB.out.2.2.1 i (by omega)) (HCUT.out.2.2.2.2.1.congr fun i _ _ => HB.out.2.2.1 i (by omega)) b3 hmide heb, Same.refl _ _ _⟩; have HGC : Hid (w.grownBy w2 (some g)) := HGB.out))
            all_goals
              go_end0
              obtain ⟨x1, x2⟩ := sym_fin HSF.out HB.out.2.1 HB.out.2.2 HC3.out.2.1 HC3.out.2.2 HCUT.out.2.2.2.2.2.2 (by omega) (by omega)
              exact ⟨rfl, ⟨_, HC3.out.1, x1, x2⟩, HGC.out⟩
        · by_cases b3 : mid < e ∧ e < b
          · have d3 : (mid : Int) < e ∧ (e : Int) < b := by omega
            go_wp2_with (first | (go_at_call 37; refine (rotate_any g cap n s m e _ f _ HR.out b1.1 b1.2 (by omega) hn).mono ?_; rintro _ w1 ⟨rfl, ha, hga⟩; have HA : Hid (Rw w1 g cap n (rot f s m e)) := ha; have HGA : Hid (w.grownBy w1 (some g)) := grown_trans HG.out hga; clear ha hga; have HB : Hid (Rw w1 g cap n (rot f s m e) ∧ Sorted K (rot f s m e) a mid ∧ Same (rot f s m e) (rot f s m e) a mid) := ⟨HA.out, sorted_left_empty HCUT.out.1 HCUT.out.2.1 b2 has hsmid, Same.refl _ _ _⟩; have HGB : Hid (w.grownBy w1 (some g)) := HGA.out) | (go_at_call 36; refine (HIH.out mid e b (by omega) _ _ HB.out.1 (HK.out.grown HGB.out) (same_all HPF.out HB.out.2.2 (by omega)) (HCUT.out.2.2.2.1.congr fun i _ _ => HB.out.2.2.1 i (by omega)) (HCUT.out.2.2.2.2.1.congr fun i _ _ => HB.out.2.2.1 i (by omega)) (HCUT.out.2.2.2.2.2.1.congr (fun i _ _ => HB.out.2.2.1 i (by omega)) hmide heb) b3.1 b3.2 hbn).mono ?_; rintro _ w3 ⟨rfl, ⟨f2, hb, hs, hsa⟩, hgb⟩; have HC3 : Hid (Rw w3 g cap n f2 ∧ Sorted K f2 mid b ∧ Same (rot f s m e) f2 mid b) := ⟨hb, hs, hsa⟩; have HGC : Hid (w.grownBy w3 (some g)) := grown_trans HGB.out hgb; clear hb hs hsa hgb))
            all_goals
              go_end0
              obtain ⟨x1, x2⟩ := sym_fin HSF.out HB.out.2.1 HB.out.2.2 HC3.out.2.1 HC3.out.2.2 HCUT.out.2.2.2.2.2.2 (by omega) (by omega)
              exact ⟨rfl, ⟨_, HC3.out.1, x1, x2⟩, HGC.out⟩
          · have d3 : True := trivial
            go_wp2_with (first | (go_at_call 37; refine (rotate_any g cap n s m e _ f _ HR.out b1.1 b1.2 (by omega) hn).mono ?_; rintro _ w1 ⟨rfl, ha, hga⟩; have HA : Hid (Rw w1 g cap n (rot f s m e)) := ha; have HGA : Hid (w.grownBy w1 (some g)) := grown_trans HG.out hga; clear ha hga; have HB : Hid (Rw w1 g cap n (rot f s m e) ∧ Sorted K (rot f s m e) a mid ∧ Same (rot f s m e) (rot f s m e) a mid) := ⟨HA.out, sorted_left_empty HCUT.out.1 HCUT.out.2.1 b2 has hsmid, Same.refl _ _ _⟩; have HGB : Hid (w.grownBy w1 (some g)) := HGA.out; have HC3 : Hid (Rw w1 g cap n (rot f s m e) ∧ Sorted K (rot f s m e) mid b ∧ Same (rot f s m e) (rot f s m e) mid b) := ⟨HB.out.1, sorted_left_empty (HCUT.out.2.2.2.1.congr fun i _ _ => HB.out.2.2.1 i (by omega)) (HCUT.out.2.2.2.2.1.congr fun i _ _ => HB.out.2.2.1 i (by omega)) b3 hmide heb, Same.refl _ _ _⟩; have HGC : Hid (w.grownBy w1 (some g)) := HGB.out))
            all_goals
              go_end0
              obtain ⟨x1, x2⟩ := sym_fin HSF.out HB.out.2.1 HB.out.2.2 HC3.out.2.1 HC3.out.2.2 HCUT.out.2.2.2.2.2.2 (by omega) (by omega)
              exact ⟨rfl, ⟨_, HC3.out.1, x1, x2⟩, HGC.out⟩
      · have d1 : (s = m ∧ m ≤ e) ∨ (m = e ∧ s ≤ m) := by omega
        have HD1 : Hid ((s = m ∧ m ≤ e) ∨ (m = e ∧ s ≤ m)) := d1
        clear d1
        have HA : Hid (Rw wr g cap n (rot f s m e)) := HR.out.congr (fun x _ => by rw [rot_triv HD1.out])
        have HGA : Hid (w.grownBy wr (some g)) := HG.out
        by_cases b2 : a < s ∧ s < mid
        · by_cases b3 : mid < e ∧ e < b
          · have d3 : (mid : Int) < e ∧ (e : Int) < b := by omega
            go_wp2_with (first | (go_at_call 36; refine (HIH.out mid e b (by omega) _ _ HB.out.1 (HK.out.grown HGB.out) (same_all HPF.out HB.out.2.2 (by omega)) (HCUT.out.2.2.2.1.congr fun i _ _ => HB.out.2.2.1 i (by omega)) (HCUT.out.2.2.2.2.1.congr fun i _ _ => HB.out.2.2.1 i (by omega)) (HCUT.out.2.2.2.2.2.1.congr (fun i _ _ => HB.out.2.2.1 i (by omega)) hmide heb) b3.1 b3.2 hbn).mono ?_; rintro _ w3 ⟨rfl, ⟨f2, hb, hs, hsa⟩, hgb⟩; have HC3 : Hid (Rw w3 g cap n f2 ∧ Sorted K f2 mid b ∧ Same f1 f2 mid b) := ⟨hb, hs, hsa⟩; have HGC : Hid (w.grownBy w3 (some g)) := grown_trans HGB.out hgb; clear hb hs hsa hgb) | (go_at_call 36; refine (HIH.out a s mid (by omega) _ _ HA.out (HK.out.grown HGA.out) HPF.out HCUT.out.1 HCUT.out.2.1 HCUT.out.2.2.1 b2.1 b2.2 (by omega)).mono ?_; rintro _ w2 ⟨rfl, ⟨f1, hb, hs, hsa⟩, hgb⟩; have HB : Hid (Rw w2 g cap n f1 ∧ Sorted K f1 a mid ∧ Same (rot f s m e) f1 a mid) := ⟨hb, hs, hsa⟩; have HGB : Hid (w.grownBy w2 (some g)) := grown_trans HGA.out hgb; clear hb hs hsa hgb))
            all_goals
              go_end0
              obtain ⟨x1, x2⟩ := sym_fin HSF.out HB.out.2.1 HB.out.2.2 HC3.out.2.1 HC3.out.2.2 HCUT.out.2.2.2.2.2.2 (by omega) (by omega)
              exact ⟨rfl, ⟨_, HC3.out.1, x1, x2⟩, HGC.out⟩
          · have d3 : True := trivial
            go_wp2_with (first | (go_at_call 36; refine (HIH.out a s mid (by omega) _ _ HA.out (HK.out.grown HGA.out) HPF.out HCUT.out.1 HCUT.out.2.1 HCUT.out.2.2.1 b2.1 b2.2 (by omega)).mono ?_; rintro _ w2 ⟨rfl, ⟨f1, hb, hs, hsa⟩, hgb⟩; have HB : Hid (Rw w2 g cap n f1 ∧ Sorted K f1 a mid ∧ Same (rot f s m e) f1 a mid) := ⟨hb, hs, hsa⟩; have HGB : Hid (w.grownBy w2 (some g)) := grown_trans HGA.out hgb; clear hb hs hsa hgb; have HC3 : Hid (Rw w2 g cap n f1 ∧ Sorted K f1 mid b ∧ Same f1 f1 mid b) := ⟨HB.out.1, sorted_left_empty (HCUT.out.2.2.2.1.congr fun i _ _ => HB.out.2.2.1 i (by omega)) (HCUT.out.2.2.2.2.1.congr fun i _ _ => HB.out.2.2.1 i (by omega)) b3 hmide heb, Same.refl _ _ _⟩; have HGC : Hid (w.grownBy w2 (some g)) := HGB.out))
            all_goals
              go_end0
              obtain ⟨x1, x2⟩ := sym_fin HSF.out HB.out.2.1 HB.out.2.2 HC3.out.2.1 HC3.out.2.2 HCUT.out.2.2.2.2.2.2 (by omega) (by omega)
              exact ⟨rfl, ⟨_, HC3.out.1, x1, x2⟩, HGC.out⟩
        · by_cases b3 : mid < e ∧ e < b
          · have d3 : (mid : Int) < e ∧ (e : Int) < b := by omega
            have HB : Hid (Rw wr g cap n (rot f s m e) ∧ Sorted K (rot f s m e) a mid ∧ Same (rot f s m e) (rot f s m e) a mid) := ⟨HA.out, sorted_left_empty HCUT.out.1 HCUT.out.2.1 b2 has hsmid, Same.refl _ _ _⟩
            have HGB : Hid (w.grownBy wr (some g)) := HGA.out
            go_wp2_with (first | (go_at_call 36; refine (HIH.out mid e b (by omega) _ _ HB.out.1 (HK.out.grown HGB.out) (same_all HPF.out HB.out.2.2 (by omega)) (HCUT.out.2.2.2.1.congr fun i _ _ => HB.out.2.2.1 i (by omega)) (HCUT.out.2.2.2.2.1.congr fun i _ _ => HB.out.2.2.1 i (by omega)) (HCUT.out.2.2.2.2.2.1.congr (fun i _ _ => HB.out.2.2.1 i (by omega)) hmide heb) b3.1 b3.2 hbn).mono ?_; rintro _ w3 ⟨rfl, ⟨f2, hb, hs, hsa⟩, hgb⟩; have HC3 : Hid (Rw w3 g cap n f2 ∧ Sorted K f2 mid b ∧ Same (rot f s m e) f2 mid b) := ⟨hb, hs, hsa⟩; have HGC : Hid (w.grownBy w3 (some g)) := grown_trans HGB.out hgb; clear hb hs hsa hgb))
            all_goals
              go_end0
              obtain ⟨x1, x2⟩ := sym_fin HSF.out HB.out.2.1 HB.out.2.2 HC3.out.2.1 HC3.out.2.2 HCUT.out.2.2.2.2.2.2 (by omega) (by omega)
              exact ⟨rfl, ⟨_, HC3.out.1, x1, x2⟩, HGC.out⟩
          · have d3 : True := trivial
            have HB : Hid (Rw wr g cap n (rot f s m e) ∧ Sorted K (rot f s m e) a mid ∧ Same (rot f s m e) (rot f s m e) a mid) := ⟨HA.out, sorted_left_empty HCUT.out.1 HCUT.out.2.1 b2 has hsmid, Same.refl _ _ _⟩
            have HGB : Hid (w.grownBy wr (some g)) := HGA.out
            have HC3 : Hid (Rw wr g cap n (rot f s m e) ∧ Sorted K (rot f s m e) mid b ∧ Same (rot f s m e) (rot f s m e) mid b) := ⟨HB.out.1, sorted_left_empty (HCUT.out.2.2.2.1.congr fun i _ _ => HB.out.2.2.1 i (by omega)) (HCUT.out.2.2.2.2.1.congr fun i _ _ => HB.out.2.2.1 i (by omega)) b3 hmide heb, Same.refl _ _ _⟩
            have HGC : Hid (w.grownBy wr (some g)) := HGB.out
            go_wp2
            all_goals
              go_end0
              obtain ⟨x1, x2⟩ := sym_fin HSF.out HB.out.2.1 HB.out.2.2 HC3.out.2.1 HC3.out.2.2 HCUT.out.2.2.2.2.2.2 (by omega) (by omega)
              exact ⟨rfl, ⟨_, HC3.out.1, x1, x2⟩, HGC.out⟩

theorem sym_any (g cap n : Nat) (K : Nat → Int) (P : Nat → Prop) (hn : n ≤ 4096) : ∀ d a m b, b - a ≤ d → SymSaid g cap n K P a m b := by
  intro d
  induction d with
  | zero => intro a m b hd f w _ _ _ _ _ _ h1 h2 _; omega
  | succ d ih =>
    intro a m b hd
    by_cases h1 : m = a + 1
    · subst h1
      intro f w hr hk hp _ hs hc h3 h4 h5
      have h := sym_left g cap n a b K P f w hr hk hp hs hc h4 h5 hn
      rw [show ((a + 1 : Nat) : Int) = (a : Int) + 1 by omega]
      exact h
    · by_cases h2 : b = m + 1
      · subst h2
        intro f w hr hk hp hs _ hc h3 h4 h5
        have h := sym_right g cap n a m K P f w hr hk hp hs hc (by omega) h5 hn
        rw [show ((m + 1 : Nat) : Int) = (m : Int) + 1 by omega]
        exact h
      · by_cases h3 : a < m ∧ m < b
        · have hm : ((a : Int) + b) / 2 = ((a + b) / 2 : Nat) := by omega
          by_cases h4 : (a + b) / 2 < m
          · exact sym_gen1 g cap n a m b K P hn (fun a' m' b' h => ih a' m' b' (by omega)) (by omega) (by omega) _ hm h4
          · exact sym_gen2 g cap n a m b K P hn (fun a' m' b' h => ih a' m' b' (by omega)) (by omega) (by omega) _ hm h4
        · intro f w _ _ _ _ _ _ h6 h7 _; omega
end Go.Proofs.Qxb6616745a
