import Derived.Test.Qxb6616501aFmtA7
namespace Go.Proofs.Qxb6616501aFmt
open Go.RowKit

theorem hm_written {s : ByteArray} {p : Nat} (h : dig s (p + 2) = true) : hm s true p = hm s false p := by
  unfold hm
  rcases num2_cases s p with ⟨_, e⟩ | ⟨_, _, e⟩ | ⟨_, _, e⟩ <;> rw [e] <;> simp [mins, h]

theorem zoneR_written {s : ByteArray} {p : Nat} (z0 o0 : Int) (h : dig s (p + 3) = true) : zoneR s true p z0 o0 = zoneR s false p z0 o0 := by
  unfold zoneR; rw [hm_written h]

theorem zoneR_unwritten {s : ByteArray} {p : Nat} (z0 o0 : Int) (h : dig s (p + 3) = false) (hc : byt s p = 43 ∨ byt s p = 45) : (zoneR s true p z0 o0).2.2.2 = false := by
  obtain ⟨a, b, c, d, hh⟩ : ∃ a b c d, zoneR s true p z0 o0 = (a, b, c, d) := ⟨_, _, _, _, rfl⟩
  rw [hh]
  cases d
  · rfl
  · obtain ⟨_, _, _, hq⟩ := zoneR_ok hh hc
    rcases hq with ⟨_, hd, _, _⟩ | ⟨_, hd, _⟩
    · cases hd
    · rw [h] at hd; cases hd

theorem zoneR_opt {s : ByteArray} {p : Nat} (z0 o0 : Int) (h3 : dig s (p + 3) = false) (h1 : dig s (p + 1) = true) (h2 : dig s (p + 2) = true) {c : Int} (hc : byt s p = c) (hs : c = 43 ∨ c = 45) :
    zoneR s false p z0 o0 = (c, if c = 45 then -(two s (p + 1) * 60) else two s (p + 1) * 60, p + 3, decide (two s (p + 1) ≤ 23)) := by
  have e : hm s false (p + 1) = (two s (p + 1), 0, p + 3, true) := by
    unfold hm; rw [num2_two h1 h2]; simp [mins, h3, two]
  unfold zoneR
  rw [e]
  rcases hs with rfl | rfl <;> simp [hc]

theorem zoneR_short {s : ByteArray} {p : Nat} (due : Bool) (z0 o0 : Int) (h : dig s (p + 1) = false ∨ dig s (p + 2) = false) (hc : byt s p = 43 ∨ byt s p = 45) : (zoneR s due p z0 o0).2.2.2 = false := by
  obtain ⟨a, b, c, d, hh⟩ : ∃ a b c d, zoneR s due p z0 o0 = (a, b, c, d) := ⟨_, _, _, _, rfl⟩
  rw [hh]
  cases d
  · rfl
  · obtain ⟨h1, h2, _⟩ := zoneR_ok hh hc
    rcases h with h | h
    · rw [h] at h1; cases h1
    · rw [h] at h2; cases h2

theorem zoneR_zone {s : ByteArray} {p : Nat} (due : Bool) (z0 o0 : Int) {c : Int} (hc : byt s p = c) (hs : c = 43 ∨ c = 45) : (zoneR s due p z0 o0).1 = c := by
  unfold zoneR
  rcases hs with rfl | rfl <;> simp [hc]

set_option maxRecDepth 100000 in
set_option maxHeartbeats 2000000 in
theorem opt_long (s : ByteArray) (x : Int) (z0 o0 : Int) (w : World) (h : 1048576 < s.size) :
    Calls Tryf.prog 6 #[.string s, .int .i64 x, .int .u8 z0, .int .i64 o0] w fun e w' => e = .returned (.bool true) ∧ Below w.heap.size w w' := by
  go_enter Tryf.func6, Tryf.ntmps6
  go_wp2_with (go_at_call 14; refine (bytes14_no _ _ _ _ _ h).mono ?_; rintro e w' ⟨rfl, rfl⟩)
  go_ret
  exact ⟨rfl, Below.refl _ _⟩

set_option maxRecDepth 100000 in
set_option maxHeartbeats 2000000 in
theorem opt_out (s : ByteArray) (x : Int) (z0 o0 : Int) (w : World) (h : s.size ≤ 1048576) (ho : x < 0 ∨ s.size ≤ x) :
    Calls Tryf.prog 6 #[.string s, .int .i64 x, .int .u8 z0, .int .i64 o0] w fun e w' => e = .returned (.bool true) ∧ Below w.heap.size w w' := by
  have g : decide ((1048576 : Int) < s.size) = false := by simp; omega
  by_cases h0 : x < 0
  · have d0 : decide (x < 0) = true := by simp; omega
    go_enter Tryf.func6, Tryf.ntmps6
    go_wp2_with (go_at_call 14; refine (bytes14_any _ _ _ _ _ h).mono ?_; rintro e w' ⟨rfl, rfl⟩)
    go_ret
    exact ⟨rfl, Below.refl _ _⟩
  · have d0 : decide (x < 0) = false := by simp; omega
    have d1 : decide ((s.size : Int) ≤ x) = true := by simp; omega
    clear ho
    go_enter Tryf.func6, Tryf.ntmps6
    go_wp2_with (go_at_call 14; refine (bytes14_any _ _ _ _ _ h).mono ?_; rintro e w' ⟨rfl, rfl⟩)
    go_ret
    exact ⟨rfl, Below.refl _ _⟩

set_option maxRecDepth 100000 in
set_option maxHeartbeats 2000000 in
theorem opt_plain (s : ByteArray) (p : Nat) (z0 o0 : Int) (w : World) (h : s.size ≤ 1048576) (hp : p < s.size) (h2 : byt s p ≠ 43) (h3 : byt s p ≠ 45) :
    Calls Tryf.prog 6 #[.string s, .int .i64 p, .int .u8 z0, .int .i64 o0] w fun e w' => e = .returned (.bool true) ∧ Below w.heap.size w w' := by
  have g : decide ((1048576 : Int) < s.size) = false := by simp; omega
  have d0 : decide ((p : Int) < 0) = false := by simp
  have d1 : decide ((s.size : Int) ≤ p) = false := by simp; omega
  have hzz : zoneR s true p z0 o0 = zoneR s false p z0 o0 := by unfold zoneR; simp [h2, h3]
  obtain ⟨z, o, q, ok, hz⟩ : ∃ z o q ok, zoneR s true p z0 o0 = (z, o, q, ok) := ⟨_, _, _, _, rfl⟩
  have HZ1 : Hid (zoneR s true p z0 o0 = (z, o, q, ok)) := hz
  have HZ2 : Hid (zoneR s false p z0 o0 = (z, o, q, ok)) := hzz ▸ hz
  clear hz hzz
  rw [byt_in hp] at h2 h3
  have e43' : ((s[p].toNat : Int) == 43) = false := by simp; omega
  have e45' : ((s[p].toNat : Int) == 45) = false := by simp; omega
  have hi : (p : Int) < (s.size : Int) := by omega
  have z3 : (0 : Int) ≤ (p : Int) + 3 := by omega
  clear h2 h3
  go_enter Tryf.func6, Tryf.ntmps6
  go_wp2_with (go_at_call 14; refine (bytes14_any _ _ _ _ _ h).mono ?_; rintro e w' ⟨rfl, rfl⟩)
  refine (zzReadZone s p true z0 o0 _ hp h _ _ _ _ HZ1.out).mono ?_
  rintro e w1 ⟨⟨er1, her1, rfl⟩, hb1⟩
  go_wp2_with fail
  refine (zzReadZone s p false z0 o0 _ hp h _ _ _ _ HZ2.out).mono ?_
  rintro e w2 ⟨⟨er2, her2, rfl⟩, hb2⟩
  have hbf : Below w.heap.size w w2 := hb1.trans (hb2.mono hb1.size)
  clear hb1 hb2
  clear HZ1 HZ2
  cases ok
  · obtain ⟨t1, x1, rfl⟩ : ∃ t x, er1 = .iface t x := by simpa [ErrIs] using her1
    obtain ⟨t2, x2, rfl⟩ : ∃ t x, er2 = .iface t x := by simpa [ErrIs] using her2
    clear her1 her2
    by_cases hl : p + 3 < s.size
    · have hl' : (p : Int) + 3 < (s.size : Int) := by omega
      go_wp2_with (go_at_call 9; refine (isDigit_raw _ _).mono ?_; rintro e w4 ⟨rfl, rfl⟩)
      go_quiet (fail)
      go_wp2
      go_ret
      exact ⟨rfl, below_drewN hbf _⟩
    · have hl' : decide ((p : Int) + 3 < (s.size : Int)) = false := by simp; omega
      go_wp2_with fail
      go_quiet (fail)
      go_wp2
      go_ret
      exact ⟨rfl, below_drewN hbf _⟩
  · obtain rfl : er1 = .nilIface := by simpa [ErrIs] using her1
    obtain rfl : er2 = .nilIface := by simpa [ErrIs] using her2
    clear her1 her2
    by_cases hl : p + 3 < s.size
    · have hl' : (p : Int) + 3 < (s.size : Int) := by omega
      go_wp2_with (go_at_call 9; refine (isDigit_raw _ _).mono ?_; rintro e w4 ⟨rfl, rfl⟩)
      go_quiet (fail)
      go_wp2
      go_ret
      exact ⟨rfl, below_drewN hbf _⟩
    · have hl' : decide ((p : Int) + 3 < (s.size : Int)) = false := by simp; omega
      go_wp2_with fail
      go_quiet (fail)
      go_wp2
      go_ret
      exact ⟨rfl, below_drewN hbf _⟩

set_option maxRecDepth 100000 in
set_option maxHeartbeats 2000000 in
theorem opt_written_plus (s : ByteArray) (p : Nat) (z0 o0 : Int) (w : World) (h : s.size ≤ 1048576) (hp : p < s.size) (hc : byt s p = 43) (h3 : dig s (p + 3) = true) :
    Calls Tryf.prog 6 #[.string s, .int .i64 p, .int .u8 z0, .int .i64 o0] w fun e w' => e = .returned (.bool true) ∧ Below w.heap.size w w' := by
  have g : decide ((1048576 : Int) < s.size) = false := by simp; omega
  have d0 : decide ((p : Int) < 0) = false := by simp
  have d1 : decide ((s.size : Int) ≤ p) = false := by simp; omega
  have hzz := zoneR_written (s := s) (p := p) z0 o0 h3
  obtain ⟨o, q, ok, hz⟩ : ∃ o q ok, zoneR s true p z0 o0 = (43, o, q, ok) := ⟨_, _, _, by unfold zoneR; simp only [hc]; rfl⟩
  have HZ1 : Hid (zoneR s true p z0 o0 = (43, o, q, ok)) := hz
  have HZ2 : Hid (zoneR s false p z0 o0 = (43, o, q, ok)) := hzz ▸ hz
  have HOK := fun (hk : ok = true) => zoneR_ok (by rw [← hk]; exact hz) (Or.inl hc)
  rw [hc] at HOK
  clear hz hzz
  have HC : Hid (byt s p = 43) := hc
  rw [byt_in hp] at hc
  have e43' : ((s[p].toNat : Int) == 43) = true := by simp; omega
  have e45' : ((s[p].toNat : Int) == 45) = false := by simp; omega
  have ecr : ((43 : Int) == (s[p].toNat : Int)) = true := by simp; omega
  have hi : (p : Int) < (s.size : Int) := by omega
  have z1 : (0 : Int) ≤ (p : Int) + 1 := by omega
  have z2 : (0 : Int) ≤ (p : Int) + 2 := by omega
  have z3 : (0 : Int) ≤ (p : Int) + 3 := by omega
  clear hc
  obtain ⟨l3, a3, b3⟩ := dig_true.1 h3
  rw [byt_in l3] at a3 b3
  have q3 : (p : Int) + 3 < (s.size : Int) := by omega
  have HO : Hid (ok = true → _) := HOK
  clear HOK
  go_enter Tryf.func6, Tryf.ntmps6
  go_wp2_with (go_at_call 14; refine (bytes14_any _ _ _ _ _ h).mono ?_; rintro e w' ⟨rfl, rfl⟩)
  refine (zzReadZone s p true z0 o0 _ hp h _ _ _ _ HZ1.out).mono ?_
  rintro e w1 ⟨⟨er1, her1, rfl⟩, hb1⟩
  go_wp2_with fail
  refine (zzReadZone s p false z0 o0 _ hp h _ _ _ _ HZ2.out).mono ?_
  rintro e w2 ⟨⟨er2, her2, rfl⟩, hb2⟩
  have hbf : Below w.heap.size w w2 := hb1.trans (hb2.mono hb1.size)
  clear hb1 hb2
  clear HZ1 HZ2 HC
  cases ok
  · obtain ⟨t1, x1, rfl⟩ : ∃ t x, er1 = .iface t x := by simpa [ErrIs] using her1
    obtain ⟨t2, x2, rfl⟩ : ∃ t x, er2 = .iface t x := by simpa [ErrIs] using her2
    clear her1 her2 HO
    go_wp2_with (go_at_call 9; refine (isDigit_raw _ _).mono ?_; rintro e w4 ⟨rfl, rfl⟩)
    go_quiet (fail)
    go_wp2
    go_ret
    exact ⟨rfl, below_drewN hbf _⟩
  · obtain rfl : er1 = .nilIface := by simpa [ErrIs] using her1
    obtain rfl : er2 = .nilIface := by simpa [ErrIs] using her2
    obtain ⟨t1, t2, t3, hq⟩ := HO.out rfl
    clear HO her1 her2
    rcases hq with ⟨_, hd, _, _⟩ | ⟨rfl, t4, t5, t6, ho⟩
    · cases hd
    have ho' : o = (two s (p + 1) * 60 + two s (p + 3)) := by simpa using ho
    subst ho'
    clear ho
    obtain ⟨l4, a4, b4⟩ := dig_true.1 t5
    have hb1 := two_bd t1 t2
    have hb2 := two_bd t4 t5
    have hall : ∀ k, 1 ≤ k → k < 5 → dig s (p + k) = true := by
      intro k k1 k2
      match k, k1, k2 with
      | 1, _, _ => exact t1
      | 2, _, _ => exact t2
      | 3, _, _ => exact t4
      | 4, _, _ => exact t5
    have HA : Hid (∀ k, 1 ≤ k → k < 5 → dig s (p + k) = true) := hall
    clear hall a4 b4
    have q5 : decide ((s.size : Int) < (p : Int) + 5) = false := by simp; omega
    go_wp2_with (go_at_call 9; refine (isDigit_raw _ _).mono ?_; rintro e w4 ⟨rfl, rfl⟩)
    go_quiet (fail)
    go_wp2
    go_loopw [20] (fun i wr => ∃ k : Nat, 1 ≤ k ∧ k ≤ 5 ∧ i = .int .i64 ((p : Int) + k) ∧ Below w.heap.size w wr) (fun i _ => ((p : Int) + 5 - intOf i).toNat)
    case atStart => exact ⟨1, by omega, by omega, rfl, below_drewN hbf _⟩
    case round =>
      obtain ⟨k, k1, k5, rfl, hbr⟩ := hrel
      by_cases hk : k < 5
      · obtain ⟨lk, ak, bk⟩ := dig_true.1 (HA.out k k1 hk)
        rw [byt_in lk] at ak bk
        have qk : (p : Int) + k < (s.size : Int) := by omega
        have zk : (0 : Int) ≤ (p : Int) + k := by omega
        go_wp2_with (go_at_call 9; refine (isDigit_raw _ _).mono ?_; rintro e w4 ⟨rfl, rfl⟩)
        go_roundw
        case rel => exact ⟨k + 1, by omega, by omega, by go_num, hbr⟩
        case measure => simp [intOf]; omega
      · obtain rfl : k = 5 := by omega
        go_wp2_with (first
          | (go_at_call 11; refine (two_int s _ (p + 1) ?_ t1 t2 h _).mono ?_; (omega); rintro e w4 ⟨rfl, n4, rfl⟩)
          | (go_at_call 11; refine (two_int s _ (p + 3) ?_ t4 t5 h _).mono ?_; (omega); rintro e w4 ⟨rfl, n4, rfl⟩))
        go_ret
        exact ⟨rfl, below_drewN hbr _⟩

set_option maxRecDepth 100000 in
set_option maxHeartbeats 2000000 in
theorem opt_written_minus (s : ByteArray) (p : Nat) (z0 o0 : Int) (w : World) (h : s.size ≤ 1048576) (hp : p < s.size) (hc : byt s p = 45) (h3 : dig s (p + 3) = true) :
    Calls Tryf.prog 6 #[.string s, .int .i64 p, .int .u8 z0, .int .i64 o0] w fun e w' => e = .returned (.bool true) ∧ Below w.heap.size w w' := by
  have g : decide ((1048576 : Int) < s.size) = false := by simp; omega
  have d0 : decide ((p : Int) < 0) = false := by simp
  have d1 : decide ((s.size : Int) ≤ p) = false := by simp; omega
  have hzz := zoneR_written (s := s) (p := p) z0 o0 h3
  obtain ⟨o, q, ok, hz⟩ : ∃ o q ok, zoneR s true p z0 o0 = (45, o, q, ok) := ⟨_, _, _, by unfold zoneR; simp only [hc]; rfl⟩
  have HZ1 : Hid (zoneR s true p z0 o0 = (45, o, q, ok)) := hz
  have HZ2 : Hid (zoneR s false p z0 o0 = (45, o, q, ok)) := hzz ▸ hz
  have HOK := fun (hk : ok = true) => zoneR_ok (by rw [← hk]; exact hz) (Or.inr hc)
  rw [hc] at HOK
  clear hz hzz
  have HC : Hid (byt s p = 45) := hc
  rw [byt_in hp] at hc
  have e43' : ((s[p].toNat : Int) == 43) = false := by simp; omega
  have e45' : ((s[p].toNat : Int) == 45) = true := by simp; omega
  have ecr : ((45 : Int) == (s[p].toNat : Int)) = true := by simp; omega
  have hi : (p : Int) < (s.size : Int) := by omega
  have z1 : (0 : Int) ≤ (p : Int) + 1 := by omega
  have z2 : (0 : Int) ≤ (p : Int) + 2 := by omega
  have z3 : (0 : Int) ≤ (p : Int) + 3 := by omega
  clear hc
  obtain ⟨l3, a3, b3⟩ := dig_true.1 h3
  rw [byt_in l3] at a3 b3
  have q3 : (p : Int) + 3 < (s.size : Int) := by omega
  have HO : Hid (ok = true → _) := HOK
  clear HOK
  go_enter Tryf.func6, Tryf.ntmps6
  go_wp2_with (go_at_call 14; refine (bytes14_any _ _ _ _ _ h).mono ?_; rintro e w' ⟨rfl, rfl⟩)
  refine (zzReadZone s p true z0 o0 _ hp h _ _ _ _ HZ1.out).mono ?_
  rintro e w1 ⟨⟨er1, her1, rfl⟩, hb1⟩
  go_wp2_with fail
  refine (zzReadZone s p false z0 o0 _ hp h _ _ _ _ HZ2.out).mono ?_
  rintro e w2 ⟨⟨er2, her2, rfl⟩, hb2⟩
  have hbf : Below w.heap.size w w2 := hb1.trans (hb2.mono hb1.size)
  clear hb1 hb2
  clear HZ1 HZ2 HC
  cases ok
  · obtain ⟨t1, x1, rfl⟩ : ∃ t x, er1 = .iface t x := by simpa [ErrIs] using her1
    obtain ⟨t2, x2, rfl⟩ : ∃ t x, er2 = .iface t x := by simpa [ErrIs] using her2
    clear her1 her2 HO
    go_wp2_with (go_at_call 9; refine (isDigit_raw _ _).mono ?_; rintro e w4 ⟨rfl, rfl⟩)
    go_quiet (fail)
    go_wp2
    go_ret
    exact ⟨rfl, below_drewN hbf _⟩
  · obtain rfl : er1 = .nilIface := by simpa [ErrIs] using her1
    obtain rfl : er2 = .nilIface := by simpa [ErrIs] using her2
    obtain ⟨t1, t2, t3, hq⟩ := HO.out rfl
    clear HO her1 her2
    rcases hq with ⟨_, hd, _, _⟩ | ⟨rfl, t4, t5, t6, ho⟩
    · cases hd
    have ho' : o = -(two s (p + 1) * 60 + two s (p + 3)) := by simpa using ho
    subst ho'
    clear ho
    obtain ⟨l4, a4, b4⟩ := dig_true.1 t5
    have hb1 := two_bd t1 t2
    have hb2 := two_bd t4 t5
    have hall : ∀ k, 1 ≤ k → k < 5 → dig s (p + k) = true := by
      intro k k1 k2
      match k, k1, k2 with
      | 1, _, _ => exact t1
      | 2, _, _ => exact t2
      | 3, _, _ => exact t4
      | 4, _, _ => exact t5
    have HA : Hid (∀ k, 1 ≤ k → k < 5 → dig s (p + k) = true) := hall
    clear hall a4 b4
    have q5 : decide ((s.size : Int) < (p : Int) + 5) = false := by simp; omega
    go_wp2_with (go_at_call 9; refine (isDigit_raw _ _).mono ?_; rintro e w4 ⟨rfl, rfl⟩)
    go_quiet (fail)
    go_wp2
    go_loopw [20] (fun i wr => ∃ k : Nat, 1 ≤ k ∧ k ≤ 5 ∧ i = .int .i64 ((p : Int) + k) ∧ Below w.heap.size w wr) (fun i _ => ((p : Int) + 5 - intOf i).toNat)
    case atStart => exact ⟨1, by omega, by omega, rfl, below_drewN hbf _⟩
    case round =>
      obtain ⟨k, k1, k5, rfl, hbr⟩ := hrel
      by_cases hk : k < 5
      · obtain ⟨lk, ak, bk⟩ := dig_true.1 (HA.out k k1 hk)
        rw [byt_in lk] at ak bk
        have qk : (p : Int) + k < (s.size : Int) := by omega
        have zk : (0 : Int) ≤ (p : Int) + k := by omega
        go_wp2_with (go_at_call 9; refine (isDigit_raw _ _).mono ?_; rintro e w4 ⟨rfl, rfl⟩)
        go_roundw
        case rel => exact ⟨k + 1, by omega, by omega, by go_num, hbr⟩
        case measure => simp [intOf]; omega
      · obtain rfl : k = 5 := by omega
        go_wp2_with (first
          | (go_at_call 11; refine (two_int s _ (p + 1) ?_ t1 t2 h _).mono ?_; (omega); rintro e w4 ⟨rfl, n4, rfl⟩)
          | (go_at_call 11; refine (two_int s _ (p + 3) ?_ t4 t5 h _).mono ?_; (omega); rintro e w4 ⟨rfl, n4, rfl⟩))
        go_ret
        exact ⟨rfl, below_drewN hbr _⟩

end Go.Proofs.Qxb6616501aFmt
