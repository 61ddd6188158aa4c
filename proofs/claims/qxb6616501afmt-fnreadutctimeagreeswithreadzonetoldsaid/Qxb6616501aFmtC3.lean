import Derived.Test.Qxb6616501aFmtC2
namespace Go.Proofs.Qxb6616501aFmt
open Go.RowKit

set_option maxRecDepth 100000 in
set_option maxHeartbeats 4000000 in
theorem utc_long (s : ByteArray) (x se0 z0 o0 : Int) (w : World) (h : 1048576 < s.size) :
    Calls Tryf.prog 3 #[.string s, .int .i64 x, .int .i64 se0, .int .u8 z0, .int .i64 o0] w fun e w' => e = .returned (.bool true) ∧ Below w.heap.size w w' := by
  go_enter Tryf.func3, Tryf.ntmps3
  go_wp2_with (go_at_call 7; refine (bytes7_no _ _ _ _ _ _ h).mono ?_; rintro e w' ⟨rfl, rfl⟩)
  go_ret
  exact ⟨rfl, Below.refl _ _⟩

set_option maxRecDepth 100000 in
set_option maxHeartbeats 4000000 in
theorem utc_out (s : ByteArray) (x se0 z0 o0 : Int) (w : World) (h : s.size ≤ 1048576) (ho : x < 0 ∨ s.size < x) :
    Calls Tryf.prog 3 #[.string s, .int .i64 x, .int .i64 se0, .int .u8 z0, .int .i64 o0] w fun e w' => e = .returned (.bool true) ∧ Below w.heap.size w w' := by
  have g : decide ((1048576 : Int) < s.size) = false := by simp; omega
  by_cases h0 : x < 0
  · have d0 : decide (x < 0) = true := by simp; omega
    go_enter Tryf.func3, Tryf.ntmps3
    go_wp2_with (go_at_call 7; refine (bytes7_any _ _ _ _ _ _ h).mono ?_; rintro e w' ⟨rfl, rfl⟩)
    go_ret
    exact ⟨rfl, Below.refl _ _⟩
  · have d0 : decide (x < 0) = false := by simp; omega
    have d1 : decide ((s.size : Int) < x) = true := by simp; omega
    clear ho
    go_enter Tryf.func3, Tryf.ntmps3
    go_wp2_with (go_at_call 7; refine (bytes7_any _ _ _ _ _ _ h).mono ?_; rintro e w' ⟨rfl, rfl⟩)
    go_ret
    exact ⟨rfl, Below.refl _ _⟩

set_option maxRecDepth 100000 in
set_option maxHeartbeats 4000000 in
theorem utc_err (s : ByteArray) (p K : Nat) (se0 z0 o0 : Int) (w : World) (h : s.size ≤ 1048576) (hp : p ≤ s.size) (hK : run s p 13 = K) (hw : (K ≠ 10 ∧ K ≠ 12) ∨ p + K = s.size) (hbad : Bad s p) :
    Calls Tryf.prog 3 #[.string s, .int .i64 p, .int .i64 se0, .int .u8 z0, .int .i64 o0] w fun e w' => e = .returned (.bool true) ∧ Below w.heap.size w w' := by
  have g : decide ((1048576 : Int) < s.size) = false := by simp; omega
  have d0 : decide ((p : Int) < 0) = false := by simp
  have d1 : decide ((s.size : Int) < p) = false := by simp; omega
  have hsp := run_spec s p 13
  rw [hK] at hsp
  obtain ⟨hK13, hdg, hnx⟩ := hsp
  have HD : Hid (∀ j, j < K → dig s (p + j) = true) := hdg
  have HE : Hid (K < 13 → dig s (p + K) = false) := hnx
  have HW : Hid ((K ≠ 10 ∧ K ≠ 12) ∨ p + K = s.size) := hw
  clear hdg hnx hw hK
  go_enter Tryf.func3, Tryf.ntmps3
  go_wp2_with (go_at_call 7; refine (bytes7_any _ _ _ _ _ _ h).mono ?_; rintro e w' ⟨rfl, rfl⟩)
  refine (zzUTC_err s p se0 z0 o0 _ hp h hbad).mono ?_
  rintro e w1 ⟨⟨y, mo, d, hh, mi, se, un, zo, off, q, er, her, rfl⟩, hb⟩
  obtain ⟨t, x, rfl⟩ : ∃ t x, er = .iface t x := by simpa [ErrIs] using her
  clear her hbad
  go_wp2_with fail
  go_loop [22] (fun i => ∃ k : Nat, k ≤ K ∧ i = .int .i64 k) (fun i => K - (intOf i).toNat)
  case atStart => exact ⟨0, Nat.zero_le _, rfl⟩
  case round =>
    obtain ⟨k, hk, rfl⟩ := hrel
    by_cases hkK : k < K
    · obtain ⟨lk, ak, bk⟩ := dig_true.1 (HD.out k hkK)
      rw [byt_in lk] at ak bk
      have q1 : (k : Int) < 13 := by omega
      have q2 : (p : Int) + k < (s.size : Int) := by omega
      have z2 : (0 : Int) ≤ (p : Int) + k := by omega
      go_wp2_with (go_at_call 9; refine (isDigit_raw _ _).mono ?_; rintro e w4 ⟨rfl, rfl⟩)
      go_round
      case rel => exact ⟨k + 1, by omega, by go_num⟩
      case measure => simp [intOf]; omega
    · obtain rfl : k = K := by omega
      clear hkK hk
      by_cases hk13 : k = 13
      · have q1 : decide ((k : Int) < 13) = false := by simp; omega
        have t10 : ((k : Int) != 10) = true := by rw [bne_iff_ne]; omega
        have t12 : ((k : Int) != 12) = true := by rw [bne_iff_ne]; omega
        go_wp2
        go_ret
        exact ⟨rfl, hb⟩
      · have q1 : (k : Int) < 13 := by omega
        by_cases hend : p + k < s.size
        · have q2 : (p : Int) + k < (s.size : Int) := by omega
          have z2 : (0 : Int) ≤ (p : Int) + k := by omega
          have hnd : (decide ((48 : Int) ≤ (s[p + k].toNat : Int)) && decide ((s[p + k].toNat : Int) ≤ 57)) = false := by rw [← HE.out (by omega), dig_in hend, byt_in hend]
          have t10 : ((k : Int) != 10) = true := by rw [bne_iff_ne]; have := HW.out; omega
          have t12 : ((k : Int) != 12) = true := by rw [bne_iff_ne]; have := HW.out; omega
          go_wp2_with (go_at_call 9; refine (isDigit_raw _ _).mono ?_; rintro e w4 ⟨rfl, rfl⟩)
          go_ret
          exact ⟨rfl, hb⟩
        · have q2 : decide ((p : Int) + k < (s.size : Int)) = false := by simp; omega
          by_cases h10 : k = 10
          · have t10 : ((k : Int) != 10) = false := by simp; omega
            have hpe : ((p : Int) + k == (s.size : Int)) = true := by have := HW.out; simp; omega
            go_wp2
            go_ret
            exact ⟨rfl, hb⟩
          · have t10 : ((k : Int) != 10) = true := by rw [bne_iff_ne]; omega
            by_cases h12 : k = 12
            · have t12 : ((k : Int) != 12) = false := by simp; omega
              have hpe : ((p : Int) + k == (s.size : Int)) = true := by have := HW.out; simp; omega
              go_wp2
              go_ret
              exact ⟨rfl, hb⟩
            · have t12 : ((k : Int) != 12) = true := by rw [bne_iff_ne]; omega
              go_wp2
              go_ret
              exact ⟨rfl, hb⟩

set_option maxRecDepth 100000 in
set_option maxHeartbeats 4000000 in
theorem utc_thirteen (s : ByteArray) (p K : Nat) (se0 z0 o0 : Int) (w : World) (h : s.size ≤ 1048576) (hp : p ≤ s.size) (hK : run s p 13 = K) (hK' : K = 13) :
    Calls Tryf.prog 3 #[.string s, .int .i64 p, .int .i64 se0, .int .u8 z0, .int .i64 o0] w fun e w' => e = .returned (.bool true) ∧ Below w.heap.size w w' := by
  have hw : (K ≠ 10 ∧ K ≠ 12) ∨ p + K = s.size := .inl (by omega)
  have hall := (run_spec s p 13).2.1
  rw [hK, hK'] at hall
  have hz12 := zoneR_digit (due := true) z0 o0 (hall 12 (by omega))
  have hlt12 : p + 12 < s.size := (dig_true.1 (hall 12 (by omega))).1
  have H12 : Hid (∀ j, j < 12 → dig s (p + j) = true) := fun j hj => hall j (by omega)
  have HZ : Hid (zoneR s true (p + 12) z0 o0 = (z0, o0, p + 12, false)) := hz12
  obtain ⟨Y, hY⟩ : ∃ Y, (if two s p < 50 then 2000 + two s p else 1900 + two s p) = Y := ⟨_, rfl⟩
  have HY : Hid ((if two s p < 50 then 2000 + two s p else 1900 + two s p) = Y) := hY
  clear hall hz12 hY
  have g : decide ((1048576 : Int) < s.size) = false := by simp; omega
  have d0 : decide ((p : Int) < 0) = false := by simp
  have d1 : decide ((s.size : Int) < p) = false := by simp; omega
  have hsp := run_spec s p 13
  rw [hK] at hsp
  obtain ⟨hK13, hdg, hnx⟩ := hsp
  have HD : Hid (∀ j, j < K → dig s (p + j) = true) := hdg
  have HE : Hid (K < 13 → dig s (p + K) = false) := hnx
  have HW : Hid ((K ≠ 10 ∧ K ≠ 12) ∨ p + K = s.size) := hw
  clear hdg hnx hw hK
  go_enter Tryf.func3, Tryf.ntmps3
  go_wp2_with (go_at_call 7; refine (bytes7_any _ _ _ _ _ _ h).mono ?_; rintro e w' ⟨rfl, rfl⟩)
  refine (zzUTC_ok s p se0 z0 o0 _ hp h 12 H12.out (.inr rfl) hlt12 Y (two s (p + 10)) 1 z0 o0 (p + 12) false HZ.out HY.out rfl rfl).mono ?_
  rintro e w1 ⟨⟨er, her, rfl⟩, hb⟩
  obtain ⟨t, x, rfl⟩ : ∃ t x, er = .iface t x := by simpa [ErrIs] using her
  clear her H12 HZ
  go_wp2_with fail
  go_loop [22] (fun i => ∃ k : Nat, k ≤ K ∧ i = .int .i64 k) (fun i => K - (intOf i).toNat)
  case atStart => exact ⟨0, Nat.zero_le _, rfl⟩
  case round =>
    obtain ⟨k, hk, rfl⟩ := hrel
    by_cases hkK : k < K
    · obtain ⟨lk, ak, bk⟩ := dig_true.1 (HD.out k hkK)
      rw [byt_in lk] at ak bk
      have q1 : (k : Int) < 13 := by omega
      have q2 : (p : Int) + k < (s.size : Int) := by omega
      have z2 : (0 : Int) ≤ (p : Int) + k := by omega
      go_wp2_with (go_at_call 9; refine (isDigit_raw _ _).mono ?_; rintro e w4 ⟨rfl, rfl⟩)
      go_round
      case rel => exact ⟨k + 1, by omega, by go_num⟩
      case measure => simp [intOf]; omega
    · obtain rfl : k = K := by omega
      clear hkK hk
      by_cases hk13 : k = 13
      · have q1 : decide ((k : Int) < 13) = false := by simp; omega
        have t10 : ((k : Int) != 10) = true := by rw [bne_iff_ne]; omega
        have t12 : ((k : Int) != 12) = true := by rw [bne_iff_ne]; omega
        go_wp2
        go_ret
        exact ⟨rfl, hb⟩
      · have q1 : (k : Int) < 13 := by omega
        by_cases hend : p + k < s.size
        · have q2 : (p : Int) + k < (s.size : Int) := by omega
          have z2 : (0 : Int) ≤ (p : Int) + k := by omega
          have hnd : (decide ((48 : Int) ≤ (s[p + k].toNat : Int)) && decide ((s[p + k].toNat : Int) ≤ 57)) = false := by rw [← HE.out (by omega), dig_in hend, byt_in hend]
          have t10 : ((k : Int) != 10) = true := by rw [bne_iff_ne]; have := HW.out; omega
          have t12 : ((k : Int) != 12) = true := by rw [bne_iff_ne]; have := HW.out; omega
          go_wp2_with (go_at_call 9; refine (isDigit_raw _ _).mono ?_; rintro e w4 ⟨rfl, rfl⟩)
          go_ret
          exact ⟨rfl, hb⟩
        · have q2 : decide ((p : Int) + k < (s.size : Int)) = false := by simp; omega
          by_cases h10 : k = 10
          · have t10 : ((k : Int) != 10) = false := by simp; omega
            have hpe : ((p : Int) + k == (s.size : Int)) = true := by have := HW.out; simp; omega
            go_wp2
            go_ret
            exact ⟨rfl, hb⟩
          · have t10 : ((k : Int) != 10) = true := by rw [bne_iff_ne]; omega
            by_cases h12 : k = 12
            · have t12 : ((k : Int) != 12) = false := by simp; omega
              have hpe : ((p : Int) + k == (s.size : Int)) = true := by have := HW.out; simp; omega
              go_wp2
              go_ret
              exact ⟨rfl, hb⟩
            · have t12 : ((k : Int) != 12) = true := by rw [bne_iff_ne]; omega
              go_wp2
              go_ret
              exact ⟨rfl, hb⟩

set_option maxRecDepth 100000 in
set_option maxHeartbeats 4000000 in
theorem utc_ten (s : ByteArray) (p : Nat) (se0 z0 o0 : Int) (w : World) (h : s.size ≤ 1048576) (hp : p ≤ s.size) (hK : run s p 13 = 10) (hlt : p + 10 < s.size) :
    Calls Tryf.prog 3 #[.string s, .int .i64 p, .int .i64 se0, .int .u8 z0, .int .i64 o0] w fun e w' => e = .returned (.bool true) ∧ Below w.heap.size w w' := by
  have g : decide ((1048576 : Int) < s.size) = false := by simp; omega
  have d0 : decide ((p : Int) < 0) = false := by simp
  have d1 : decide ((s.size : Int) < p) = false := by simp; omega
  have hsp := run_spec s p 13
  rw [hK] at hsp
  obtain ⟨_, hdg, hnx⟩ := hsp
  have hnd := hnx (by omega)
  have HD : Hid (∀ j, j < 10 → dig s (p + j) = true) := hdg
  obtain ⟨z, o, q, ok, hzz⟩ : ∃ z o q ok, zoneR s true (p + 10) z0 o0 = (z, o, q, ok) := ⟨_, _, _, _, rfl⟩
  have HZ : Hid (zoneR s true (p + 10) z0 o0 = (z, o, q, ok)) := hzz
  obtain ⟨Y, hY⟩ : ∃ Y, (if two s p < 50 then 2000 + two s p else 1900 + two s p) = Y := ⟨_, rfl⟩
  have HY : Hid ((if two s p < 50 then 2000 + two s p else 1900 + two s p) = Y) := hY
  have hdK : (decide ((48 : Int) ≤ (s[p + 10].toNat : Int)) && decide ((s[p + 10].toNat : Int) ≤ 57)) = false := by rw [← hnd, dig_in hlt, byt_in hlt]
  have HND : Hid (dig s (p + 10) = false) := hnd
  clear hdg hnx hK hnd hzz hY
  go_enter Tryf.func3, Tryf.ntmps3
  go_wp2_with (go_at_call 7; refine (bytes7_any _ _ _ _ _ _ h).mono ?_; rintro e w' ⟨rfl, rfl⟩)
  refine (zzUTC_ok s p se0 z0 o0 _ hp h 10 HD.out (.inl ⟨rfl, HND.out⟩) hlt Y se0 60 z o q ok HZ.out HY.out rfl rfl).mono ?_
  rintro e w1 ⟨⟨er, her, rfl⟩, hb⟩
  go_wp2_with fail
  go_loop [22] (fun i => ∃ k : Nat, k ≤ 10 ∧ i = .int .i64 k) (fun i => 10 - (intOf i).toNat)
  case atStart => exact ⟨0, Nat.zero_le _, rfl⟩
  case round =>
    obtain ⟨k, hk, rfl⟩ := hrel
    by_cases hkK : k < 10
    · obtain ⟨lk, ak, bk⟩ := dig_true.1 (HD.out k hkK)
      rw [byt_in lk] at ak bk
      have q1 : (k : Int) < 13 := by omega
      have q2 : (p : Int) + k < (s.size : Int) := by omega
      have z2 : (0 : Int) ≤ (p : Int) + k := by omega
      go_wp2_with (go_at_call 9; refine (isDigit_raw _ _).mono ?_; rintro e w4 ⟨rfl, rfl⟩)
      go_round
      case rel => exact ⟨k + 1, by omega, by go_num⟩
      case measure => simp [intOf]; omega
    obtain rfl : k = 10 := by omega
    clear hkK hk
    have q2 : (p : Int) + 10 < (s.size : Int) := by omega
    have z2 : (0 : Int) ≤ (p : Int) + 10 := by omega
    have hpe : ((p : Int) + 10 == (s.size : Int)) = false := by simp; omega
    go_wp2_with (go_at_call 9; refine (isDigit_raw _ _).mono ?_; rintro e w4 ⟨rfl, rfl⟩)
    refine (zzReadZone s (p + 10) true z0 o0 _ hlt h z o q ok HZ.out).mono ?_
    rintro e w5 ⟨⟨er', her', rfl⟩, hb5⟩
    have hbf : Below w.heap.size w w5 := hb.trans (hb5.mono hb.size)
    clear hb hb5 HZ
    cases ok
    · obtain ⟨t1, x1, rfl⟩ : ∃ t x, er = .iface t x := by simpa [ErrIs] using her
      obtain ⟨t2, x2, rfl⟩ : ∃ t x, er' = .iface t x := by simpa [ErrIs] using her'
      go_wp2
      go_quiet (fail)
      go_wp2
      go_ret
      exact ⟨rfl, below_drewN hbf _⟩
    · obtain rfl : er = .nilIface := by simpa [ErrIs] using her
      obtain rfl : er' = .nilIface := by simpa [ErrIs] using her'
      clear her her'
      have bd := two_bd (s := s) (i := p) (by simpa using HD.out 0 (by omega)) (HD.out 1 (by omega))
      by_cases h50 : two s p < 50
      · have h50' : decide (two s p < 50) = true := by simpa using h50
        obtain rfl : Y = 2000 + two s p := by rw [← HY.out, if_pos h50]
        go_wp2
        go_quiet (fail)
        go_wp2_with (first
        | (go_at_call 11; refine (two_int s _ (p + 0) ?_ (HD.out 0 (by omega)) (HD.out 1 (by omega)) h _).mono ?_; (omega); rintro e w4 ⟨rfl, n4, rfl⟩)
        | (go_at_call 11; refine (two_int s _ (p + 2) ?_ (HD.out 2 (by omega)) (HD.out 3 (by omega)) h _).mono ?_; (omega); rintro e w4 ⟨rfl, n4, rfl⟩)
        | (go_at_call 11; refine (two_int s _ (p + 4) ?_ (HD.out 4 (by omega)) (HD.out 5 (by omega)) h _).mono ?_; (omega); rintro e w4 ⟨rfl, n4, rfl⟩)
        | (go_at_call 11; refine (two_int s _ (p + 6) ?_ (HD.out 6 (by omega)) (HD.out 7 (by omega)) h _).mono ?_; (omega); rintro e w4 ⟨rfl, n4, rfl⟩)
        | (go_at_call 11; refine (two_int s _ (p + 8) ?_ (HD.out 8 (by omega)) (HD.out 9 (by omega)) h _).mono ?_; (omega); rintro e w4 ⟨rfl, n4, rfl⟩))
        go_ret
        exact ⟨rfl, below_drewN hbf _⟩
      · have h50' : decide (two s p < 50) = false := by simpa using h50
        obtain rfl : Y = 1900 + two s p := by rw [← HY.out, if_neg (by simpa using h50')]
        go_wp2
        go_quiet (fail)
        go_wp2_with (first
        | (go_at_call 11; refine (two_int s _ (p + 0) ?_ (HD.out 0 (by omega)) (HD.out 1 (by omega)) h _).mono ?_; (omega); rintro e w4 ⟨rfl, n4, rfl⟩)
        | (go_at_call 11; refine (two_int s _ (p + 2) ?_ (HD.out 2 (by omega)) (HD.out 3 (by omega)) h _).mono ?_; (omega); rintro e w4 ⟨rfl, n4, rfl⟩)
        | (go_at_call 11; refine (two_int s _ (p + 4) ?_ (HD.out 4 (by omega)) (HD.out 5 (by omega)) h _).mono ?_; (omega); rintro e w4 ⟨rfl, n4, rfl⟩)
        | (go_at_call 11; refine (two_int s _ (p + 6) ?_ (HD.out 6 (by omega)) (HD.out 7 (by omega)) h _).mono ?_; (omega); rintro e w4 ⟨rfl, n4, rfl⟩)
        | (go_at_call 11; refine (two_int s _ (p + 8) ?_ (HD.out 8 (by omega)) (HD.out 9 (by omega)) h _).mono ?_; (omega); rintro e w4 ⟨rfl, n4, rfl⟩))
        go_ret
        exact ⟨rfl, below_drewN hbf _⟩

set_option maxRecDepth 100000 in
set_option maxHeartbeats 4000000 in
theorem utc_twelve (s : ByteArray) (p : Nat) (se0 z0 o0 : Int) (w : World) (h : s.size ≤ 1048576) (hp : p ≤ s.size) (hK : run s p 13 = 12) (hlt : p + 12 < s.size) :
    Calls Tryf.prog 3 #[.string s, .int .i64 p, .int .i64 se0, .int .u8 z0, .int .i64 o0] w fun e w' => e = .returned (.bool true) ∧ Below w.heap.size w w' := by
  have g : decide ((1048576 : Int) < s.size) = false := by simp; omega
  have d0 : decide ((p : Int) < 0) = false := by simp
  have d1 : decide ((s.size : Int) < p) = false := by simp; omega
  have hsp := run_spec s p 13
  rw [hK] at hsp
  obtain ⟨_, hdg, hnx⟩ := hsp
  have hnd := hnx (by omega)
  have HD : Hid (∀ j, j < 12 → dig s (p + j) = true) := hdg
  obtain ⟨z, o, q, ok, hzz⟩ : ∃ z o q ok, zoneR s true (p + 12) z0 o0 = (z, o, q, ok) := ⟨_, _, _, _, rfl⟩
  have HZ : Hid (zoneR s true (p + 12) z0 o0 = (z, o, q, ok)) := hzz
  obtain ⟨Y, hY⟩ : ∃ Y, (if two s p < 50 then 2000 + two s p else 1900 + two s p) = Y := ⟨_, rfl⟩
  have HY : Hid ((if two s p < 50 then 2000 + two s p else 1900 + two s p) = Y) := hY
  have hdK : (decide ((48 : Int) ≤ (s[p + 12].toNat : Int)) && decide ((s[p + 12].toNat : Int) ≤ 57)) = false := by rw [← hnd, dig_in hlt, byt_in hlt]
  have HND : Hid (dig s (p + 12) = false) := hnd
  clear hdg hnx hK hnd hzz hY
  go_enter Tryf.func3, Tryf.ntmps3
  go_wp2_with (go_at_call 7; refine (bytes7_any _ _ _ _ _ _ h).mono ?_; rintro e w' ⟨rfl, rfl⟩)
  refine (zzUTC_ok s p se0 z0 o0 _ hp h 12 HD.out (.inr rfl) hlt Y (two s (p + 10)) 1 z o q ok HZ.out HY.out rfl rfl).mono ?_
  rintro e w1 ⟨⟨er, her, rfl⟩, hb⟩
  go_wp2_with fail
  go_loop [22] (fun i => ∃ k : Nat, k ≤ 12 ∧ i = .int .i64 k) (fun i => 12 - (intOf i).toNat)
  case atStart => exact ⟨0, Nat.zero_le _, rfl⟩
  case round =>
    obtain ⟨k, hk, rfl⟩ := hrel
    by_cases hkK : k < 12
    · obtain ⟨lk, ak, bk⟩ := dig_true.1 (HD.out k hkK)
      rw [byt_in lk] at ak bk
      have q1 : (k : Int) < 13 := by omega
      have q2 : (p : Int) + k < (s.size : Int) := by omega
      have z2 : (0 : Int) ≤ (p : Int) + k := by omega
      go_wp2_with (go_at_call 9; refine (isDigit_raw _ _).mono ?_; rintro e w4 ⟨rfl, rfl⟩)
      go_round
      case rel => exact ⟨k + 1, by omega, by go_num⟩
      case measure => simp [intOf]; omega
    obtain rfl : k = 12 := by omega
    clear hkK hk
    have q2 : (p : Int) + 12 < (s.size : Int) := by omega
    have z2 : (0 : Int) ≤ (p : Int) + 12 := by omega
    have hpe : ((p : Int) + 12 == (s.size : Int)) = false := by simp; omega
    go_wp2_with (go_at_call 9; refine (isDigit_raw _ _).mono ?_; rintro e w4 ⟨rfl, rfl⟩)
    refine (zzReadZone s (p + 12) true z0 o0 _ hlt h z o q ok HZ.out).mono ?_
    rintro e w5 ⟨⟨er', her', rfl⟩, hb5⟩
    have hbf : Below w.heap.size w w5 := hb.trans (hb5.mono hb.size)
    clear hb hb5 HZ
    cases ok
    · obtain ⟨t1, x1, rfl⟩ : ∃ t x, er = .iface t x := by simpa [ErrIs] using her
      obtain ⟨t2, x2, rfl⟩ : ∃ t x, er' = .iface t x := by simpa [ErrIs] using her'
      go_wp2
      go_quiet (fail)
      go_wp2
      go_ret
      exact ⟨rfl, below_drewN hbf _⟩
    · obtain rfl : er = .nilIface := by simpa [ErrIs] using her
      obtain rfl : er' = .nilIface := by simpa [ErrIs] using her'
      clear her her'
      have bd := two_bd (s := s) (i := p) (by simpa using HD.out 0 (by omega)) (HD.out 1 (by omega))
      by_cases h50 : two s p < 50
      · have h50' : decide (two s p < 50) = true := by simpa using h50
        obtain rfl : Y = 2000 + two s p := by rw [← HY.out, if_pos h50]
        go_wp2
        go_quiet (fail)
        go_wp2_with (first
        | (go_at_call 11; refine (two_int s _ (p + 0) ?_ (HD.out 0 (by omega)) (HD.out 1 (by omega)) h _).mono ?_; (omega); rintro e w4 ⟨rfl, n4, rfl⟩)
        | (go_at_call 11; refine (two_int s _ (p + 2) ?_ (HD.out 2 (by omega)) (HD.out 3 (by omega)) h _).mono ?_; (omega); rintro e w4 ⟨rfl, n4, rfl⟩)
        | (go_at_call 11; refine (two_int s _ (p + 4) ?_ (HD.out 4 (by omega)) (HD.out 5 (by omega)) h _).mono ?_; (omega); rintro e w4 ⟨rfl, n4, rfl⟩)
        | (go_at_call 11; refine (two_int s _ (p + 6) ?_ (HD.out 6 (by omega)) (HD.out 7 (by omega)) h _).mono ?_; (omega); rintro e w4 ⟨rfl, n4, rfl⟩)
        | (go_at_call 11; refine (two_int s _ (p + 8) ?_ (HD.out 8 (by omega)) (HD.out 9 (by omega)) h _).mono ?_; (omega); rintro e w4 ⟨rfl, n4, rfl⟩)
        | (go_at_call 11; refine (two_int s _ (p + 10) ?_ (HD.out 10 (by omega)) (HD.out 11 (by omega)) h _).mono ?_; (omega); rintro e w4 ⟨rfl, n4, rfl⟩))
        go_ret
        exact ⟨rfl, below_drewN hbf _⟩
      · have h50' : decide (two s p < 50) = false := by simpa using h50
        obtain rfl : Y = 1900 + two s p := by rw [← HY.out, if_neg (by simpa using h50')]
        go_wp2
        go_quiet (fail)
        go_wp2_with (first
        | (go_at_call 11; refine (two_int s _ (p + 0) ?_ (HD.out 0 (by omega)) (HD.out 1 (by omega)) h _).mono ?_; (omega); rintro e w4 ⟨rfl, n4, rfl⟩)
        | (go_at_call 11; refine (two_int s _ (p + 2) ?_ (HD.out 2 (by omega)) (HD.out 3 (by omega)) h _).mono ?_; (omega); rintro e w4 ⟨rfl, n4, rfl⟩)
        | (go_at_call 11; refine (two_int s _ (p + 4) ?_ (HD.out 4 (by omega)) (HD.out 5 (by omega)) h _).mono ?_; (omega); rintro e w4 ⟨rfl, n4, rfl⟩)
        | (go_at_call 11; refine (two_int s _ (p + 6) ?_ (HD.out 6 (by omega)) (HD.out 7 (by omega)) h _).mono ?_; (omega); rintro e w4 ⟨rfl, n4, rfl⟩)
        | (go_at_call 11; refine (two_int s _ (p + 8) ?_ (HD.out 8 (by omega)) (HD.out 9 (by omega)) h _).mono ?_; (omega); rintro e w4 ⟨rfl, n4, rfl⟩)
        | (go_at_call 11; refine (two_int s _ (p + 10) ?_ (HD.out 10 (by omega)) (HD.out 11 (by omega)) h _).mono ?_; (omega); rintro e w4 ⟨rfl, n4, rfl⟩))
        go_ret
        exact ⟨rfl, below_drewN hbf _⟩

theorem utc_any (s : ByteArray) (x se0 z0 o0 : Int) (w : World) :
    Calls Tryf.prog 3 #[.string s, .int .i64 x, .int .i64 se0, .int .u8 z0, .int .i64 o0] w fun e w' => e = .returned (.bool true) ∧ Below w.heap.size w w' := by
  by_cases h : s.size ≤ 1048576
  · by_cases ho : x < 0 ∨ s.size < x
    · exact utc_out s x se0 z0 o0 w h ho
    · obtain ⟨p, rfl⟩ := Int.eq_ofNat_of_zero_le (show 0 ≤ x by omega)
      have hp : p ≤ s.size := by omega
      obtain ⟨h1, h2, h3⟩ := run_spec s p 13
      obtain ⟨K, hK⟩ : ∃ K, run s p 13 = K := ⟨_, rfl⟩
      rw [hK] at h1 h2 h3
      by_cases h13 : K = 13
      · exact utc_thirteen s p K se0 z0 o0 w h hp hK h13
      have hn := h3 (by omega)
      by_cases h10 : K = 10
      · subst h10
        by_cases he : p + 10 < s.size
        · exact utc_ten s p se0 z0 o0 w h hp hK he
        · have hle : p + 10 ≤ s.size := by have := (dig_true.1 (h2 9 (by omega))).1; omega
          exact utc_err s p 10 se0 z0 o0 w h hp hK (.inr (by omega)) (.inr (.inl ⟨hn, by omega⟩))
      by_cases h12 : K = 12
      · subst h12
        by_cases he : p + 12 < s.size
        · exact utc_twelve s p se0 z0 o0 w h hp hK he
        · have hle : p + 12 ≤ s.size := by have := (dig_true.1 (h2 11 (by omega))).1; omega
          exact utc_err s p 12 se0 z0 o0 w h hp hK (.inr (by omega)) (.inr (.inr (.inr ⟨h2 10 (by omega), h2 11 (by omega), by omega⟩)))
      refine utc_err s p K se0 z0 o0 w h hp hK (.inl ⟨h10, h12⟩) ?_
      by_cases hlt : K < 10
      · exact .inl ⟨K, hlt, hn⟩
      · obtain rfl : K = 11 := by omega
        exact .inr (.inr (.inl ⟨h2 10 (by omega), hn⟩))
  · exact utc_long s x se0 z0 o0 w (by omega)
end Go.Proofs.Qxb6616501aFmt
