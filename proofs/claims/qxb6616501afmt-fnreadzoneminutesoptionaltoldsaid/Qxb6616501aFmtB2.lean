import Derived.Test.Qxb6616501aFmtB1
namespace Go.Proofs.Qxb6616501aFmt
open Go.RowKit

set_option maxRecDepth 100000 in
set_option maxHeartbeats 2000000 in
theorem opt_end_plus (s : ByteArray) (p : Nat) (z0 o0 : Int) (w : World) (h : s.size ≤ 1048576) (hp : p < s.size) (hc : byt s p = 43) (h3 : dig s (p + 3) = false) (he : s.size ≤ p + 2) :
    Calls Tryf.prog 6 #[.string s, .int .i64 p, .int .u8 z0, .int .i64 o0] w fun e w' => e = .returned (.bool true) ∧ Below w.heap.size w w' := by
  have g : decide ((1048576 : Int) < s.size) = false := by simp; omega
  have d0 : decide ((p : Int) < 0) = false := by simp
  have d1 : decide ((s.size : Int) ≤ p) = false := by simp; omega
  have hz1k := zoneR_unwritten z0 o0 h3 (Or.inl hc)
  have hz1z := zoneR_zone (s := s) (p := p) true z0 o0 hc (Or.inl rfl)
  obtain ⟨zA, oA, qA, okA, hzA⟩ : ∃ z o q ok, zoneR s true p z0 o0 = (z, o, q, ok) := ⟨_, _, _, _, rfl⟩
  rw [hzA] at hz1k hz1z
  dsimp only at hz1k hz1z
  subst hz1k
  subst hz1z
  have HZ1 : Hid (zoneR s true p z0 o0 = (43, oA, qA, false)) := hzA
  clear hzA
  have hsh : dig s (p + 1) = false ∨ dig s (p + 2) = false := .inr (dig_out he)
  have hz2k := zoneR_short false z0 o0 hsh (Or.inl hc)
  have hz2z := zoneR_zone (s := s) (p := p) false z0 o0 hc (Or.inl rfl)
  obtain ⟨zB, oB, qB, okB, hzB⟩ : ∃ z o q ok, zoneR s false p z0 o0 = (z, o, q, ok) := ⟨_, _, _, _, rfl⟩
  rw [hzB] at hz2k hz2z
  dsimp only at hz2k hz2z
  subst hz2k
  subst hz2z
  have HZ2 : Hid (zoneR s false p z0 o0 = (43, oB, qB, false)) := hzB
  clear hzB
  have HC : Hid (byt s p = 43) := hc
  rw [byt_in hp] at hc
  have e43' : ((s[p].toNat : Int) == 43) = true := by simp; omega
  have e45' : ((s[p].toNat : Int) == 45) = false := by simp; omega
  have ecr : ((43 : Int) == (s[p].toNat : Int)) = true := by simp; omega
  have hi : (p : Int) < (s.size : Int) := by omega
  have z1 : (0 : Int) ≤ (p : Int) + 1 := by omega
  have z2 : (0 : Int) ≤ (p : Int) + 2 := by omega
  have z3 : (0 : Int) ≤ (p : Int) + 3 := by omega
  clear hc
  have q2 : decide ((p : Int) + 2 < (s.size : Int)) = false := by simp; omega
  have q3 : decide ((p : Int) + 3 < (s.size : Int)) = false := by simp; omega
  go_enter Tryf.func6, Tryf.ntmps6
  go_wp2_with (go_at_call 14; refine (bytes14_any _ _ _ _ _ h).mono ?_; rintro e w' ⟨rfl, rfl⟩)
  refine (zzReadZone s p true z0 o0 _ hp h _ _ _ _ HZ1.out).mono ?_
  rintro e w1 ⟨⟨er1, her1, rfl⟩, hb1⟩
  go_wp2_with fail
  refine (zzReadZone s p false z0 o0 _ hp h _ _ _ _ HZ2.out).mono ?_
  rintro e w2 ⟨⟨er2, her2, rfl⟩, hb2⟩
  have hbf : Below w.heap.size w w2 := hb1.trans (hb2.mono hb1.size)
  clear hb1 hb2
  clear HZ1 HZ2 HC
  obtain ⟨t1, x1, rfl⟩ : ∃ t x, er1 = .iface t x := by simpa [ErrIs] using her1
  obtain ⟨t2, x2, rfl⟩ : ∃ t x, er2 = .iface t x := by simpa [ErrIs] using her2
  clear her1 her2
  go_wp2
  go_ret
  exact ⟨rfl, hbf⟩

set_option maxRecDepth 100000 in
set_option maxHeartbeats 2000000 in
theorem opt_none_plus (s : ByteArray) (p : Nat) (z0 o0 : Int) (w : World) (h : s.size ≤ 1048576) (hp : p < s.size) (hc : byt s p = 43) (h3 : dig s (p + 3) = false) (he : p + 2 < s.size) (hd : dig s (p + 1) = false) :
    Calls Tryf.prog 6 #[.string s, .int .i64 p, .int .u8 z0, .int .i64 o0] w fun e w' => e = .returned (.bool true) ∧ Below w.heap.size w w' := by
  have g : decide ((1048576 : Int) < s.size) = false := by simp; omega
  have d0 : decide ((p : Int) < 0) = false := by simp
  have d1 : decide ((s.size : Int) ≤ p) = false := by simp; omega
  have hz1k := zoneR_unwritten z0 o0 h3 (Or.inl hc)
  have hz1z := zoneR_zone (s := s) (p := p) true z0 o0 hc (Or.inl rfl)
  obtain ⟨zA, oA, qA, okA, hzA⟩ : ∃ z o q ok, zoneR s true p z0 o0 = (z, o, q, ok) := ⟨_, _, _, _, rfl⟩
  rw [hzA] at hz1k hz1z
  dsimp only at hz1k hz1z
  subst hz1k
  subst hz1z
  have HZ1 : Hid (zoneR s true p z0 o0 = (43, oA, qA, false)) := hzA
  clear hzA
  have hsh : dig s (p + 1) = false ∨ dig s (p + 2) = false := .inl hd
  have hz2k := zoneR_short false z0 o0 hsh (Or.inl hc)
  have hz2z := zoneR_zone (s := s) (p := p) false z0 o0 hc (Or.inl rfl)
  obtain ⟨zB, oB, qB, okB, hzB⟩ : ∃ z o q ok, zoneR s false p z0 o0 = (z, o, q, ok) := ⟨_, _, _, _, rfl⟩
  rw [hzB] at hz2k hz2z
  dsimp only at hz2k hz2z
  subst hz2k
  subst hz2z
  have HZ2 : Hid (zoneR s false p z0 o0 = (43, oB, qB, false)) := hzB
  clear hzB
  have HC : Hid (byt s p = 43) := hc
  rw [byt_in hp] at hc
  have e43' : ((s[p].toNat : Int) == 43) = true := by simp; omega
  have e45' : ((s[p].toNat : Int) == 45) = false := by simp; omega
  have ecr : ((43 : Int) == (s[p].toNat : Int)) = true := by simp; omega
  have hi : (p : Int) < (s.size : Int) := by omega
  have z1 : (0 : Int) ≤ (p : Int) + 1 := by omega
  have z2 : (0 : Int) ≤ (p : Int) + 2 := by omega
  have z3 : (0 : Int) ≤ (p : Int) + 3 := by omega
  clear hc
  have hw3 : (p + 3 < s.size ∧ ∃ (hl : p + 3 < s.size), (decide ((48 : Int) ≤ (s[p + 3].toNat : Int)) && decide ((s[p + 3].toNat : Int) ≤ 57)) = false) ∨ s.size ≤ p + 3 := by
    by_cases hl3 : p + 3 < s.size
    · exact .inl ⟨hl3, hl3, by rw [← h3, dig_in hl3, byt_in hl3]⟩
    · exact .inr (by omega)
  have l1 : p + 1 < s.size := by omega
  have q1 : (p : Int) + 1 < (s.size : Int) := by omega
  have q2 : (p : Int) + 2 < (s.size : Int) := by omega
  have hd1 : (decide ((48 : Int) ≤ (s[p + 1].toNat : Int)) && decide ((s[p + 1].toNat : Int) ≤ 57)) = false := by rw [← hd, dig_in l1, byt_in l1]
  go_enter Tryf.func6, Tryf.ntmps6
  go_wp2_with (go_at_call 14; refine (bytes14_any _ _ _ _ _ h).mono ?_; rintro e w' ⟨rfl, rfl⟩)
  refine (zzReadZone s p true z0 o0 _ hp h _ _ _ _ HZ1.out).mono ?_
  rintro e w1 ⟨⟨er1, her1, rfl⟩, hb1⟩
  go_wp2_with fail
  refine (zzReadZone s p false z0 o0 _ hp h _ _ _ _ HZ2.out).mono ?_
  rintro e w2 ⟨⟨er2, her2, rfl⟩, hb2⟩
  have hbf : Below w.heap.size w w2 := hb1.trans (hb2.mono hb1.size)
  clear hb1 hb2
  clear HZ1 HZ2 HC
  obtain ⟨t1, x1, rfl⟩ : ∃ t x, er1 = .iface t x := by simpa [ErrIs] using her1
  obtain ⟨t2, x2, rfl⟩ : ∃ t x, er2 = .iface t x := by simpa [ErrIs] using her2
  clear her1 her2
  rcases hw3 with ⟨hl3, hl3', hdf⟩ | hl3
  · have q3 : (p : Int) + 3 < (s.size : Int) := by omega
    go_wp2_with (first
      | (go_at_call 9; refine (isDigit_raw _ _).mono ?_; rintro e w4 ⟨rfl, rfl⟩))
    go_ret
    exact ⟨rfl, hbf⟩
  · have q3 : decide ((p : Int) + 3 < (s.size : Int)) = false := by simp; omega
    go_wp2_with (first
      | (go_at_call 9; refine (isDigit_raw _ _).mono ?_; rintro e w4 ⟨rfl, rfl⟩))
    go_ret
    exact ⟨rfl, hbf⟩

set_option maxRecDepth 100000 in
set_option maxHeartbeats 2000000 in
theorem opt_one_plus (s : ByteArray) (p : Nat) (z0 o0 : Int) (w : World) (h : s.size ≤ 1048576) (hp : p < s.size) (hc : byt s p = 43) (h3 : dig s (p + 3) = false) (he : p + 2 < s.size) (hd0 : dig s (p + 1) = true) (hd : dig s (p + 2) = false) :
    Calls Tryf.prog 6 #[.string s, .int .i64 p, .int .u8 z0, .int .i64 o0] w fun e w' => e = .returned (.bool true) ∧ Below w.heap.size w w' := by
  have g : decide ((1048576 : Int) < s.size) = false := by simp; omega
  have d0 : decide ((p : Int) < 0) = false := by simp
  have d1 : decide ((s.size : Int) ≤ p) = false := by simp; omega
  have hz1k := zoneR_unwritten z0 o0 h3 (Or.inl hc)
  have hz1z := zoneR_zone (s := s) (p := p) true z0 o0 hc (Or.inl rfl)
  obtain ⟨zA, oA, qA, okA, hzA⟩ : ∃ z o q ok, zoneR s true p z0 o0 = (z, o, q, ok) := ⟨_, _, _, _, rfl⟩
  rw [hzA] at hz1k hz1z
  dsimp only at hz1k hz1z
  subst hz1k
  subst hz1z
  have HZ1 : Hid (zoneR s true p z0 o0 = (43, oA, qA, false)) := hzA
  clear hzA
  have hsh : dig s (p + 1) = false ∨ dig s (p + 2) = false := .inr hd
  have hz2k := zoneR_short false z0 o0 hsh (Or.inl hc)
  have hz2z := zoneR_zone (s := s) (p := p) false z0 o0 hc (Or.inl rfl)
  obtain ⟨zB, oB, qB, okB, hzB⟩ : ∃ z o q ok, zoneR s false p z0 o0 = (z, o, q, ok) := ⟨_, _, _, _, rfl⟩
  rw [hzB] at hz2k hz2z
  dsimp only at hz2k hz2z
  subst hz2k
  subst hz2z
  have HZ2 : Hid (zoneR s false p z0 o0 = (43, oB, qB, false)) := hzB
  clear hzB
  have HC : Hid (byt s p = 43) := hc
  rw [byt_in hp] at hc
  have e43' : ((s[p].toNat : Int) == 43) = true := by simp; omega
  have e45' : ((s[p].toNat : Int) == 45) = false := by simp; omega
  have ecr : ((43 : Int) == (s[p].toNat : Int)) = true := by simp; omega
  have hi : (p : Int) < (s.size : Int) := by omega
  have z1 : (0 : Int) ≤ (p : Int) + 1 := by omega
  have z2 : (0 : Int) ≤ (p : Int) + 2 := by omega
  have z3 : (0 : Int) ≤ (p : Int) + 3 := by omega
  clear hc
  have hw3 : (p + 3 < s.size ∧ ∃ (hl : p + 3 < s.size), (decide ((48 : Int) ≤ (s[p + 3].toNat : Int)) && decide ((s[p + 3].toNat : Int) ≤ 57)) = false) ∨ s.size ≤ p + 3 := by
    by_cases hl3 : p + 3 < s.size
    · exact .inl ⟨hl3, hl3, by rw [← h3, dig_in hl3, byt_in hl3]⟩
    · exact .inr (by omega)
  obtain ⟨l1, a1, b1⟩ := dig_true.1 hd0
  rw [byt_in l1] at a1 b1
  have q1 : (p : Int) + 1 < (s.size : Int) := by omega
  have q2 : (p : Int) + 2 < (s.size : Int) := by omega
  have hd2 : (decide ((48 : Int) ≤ (s[p + 2].toNat : Int)) && decide ((s[p + 2].toNat : Int) ≤ 57)) = false := by rw [← hd, dig_in he, byt_in he]
  go_enter Tryf.func6, Tryf.ntmps6
  go_wp2_with (go_at_call 14; refine (bytes14_any _ _ _ _ _ h).mono ?_; rintro e w' ⟨rfl, rfl⟩)
  refine (zzReadZone s p true z0 o0 _ hp h _ _ _ _ HZ1.out).mono ?_
  rintro e w1 ⟨⟨er1, her1, rfl⟩, hb1⟩
  go_wp2_with fail
  refine (zzReadZone s p false z0 o0 _ hp h _ _ _ _ HZ2.out).mono ?_
  rintro e w2 ⟨⟨er2, her2, rfl⟩, hb2⟩
  have hbf : Below w.heap.size w w2 := hb1.trans (hb2.mono hb1.size)
  clear hb1 hb2
  clear HZ1 HZ2 HC
  obtain ⟨t1, x1, rfl⟩ : ∃ t x, er1 = .iface t x := by simpa [ErrIs] using her1
  obtain ⟨t2, x2, rfl⟩ : ∃ t x, er2 = .iface t x := by simpa [ErrIs] using her2
  clear her1 her2
  rcases hw3 with ⟨hl3, hl3', hdf⟩ | hl3
  · have q3 : (p : Int) + 3 < (s.size : Int) := by omega
    go_wp2_with (first
      | (go_at_call 9; refine (isDigit_raw _ _).mono ?_; rintro e w4 ⟨rfl, rfl⟩))
    go_ret
    exact ⟨rfl, hbf⟩
  · have q3 : decide ((p : Int) + 3 < (s.size : Int)) = false := by simp; omega
    go_wp2_with (first
      | (go_at_call 9; refine (isDigit_raw _ _).mono ?_; rintro e w4 ⟨rfl, rfl⟩))
    go_ret
    exact ⟨rfl, hbf⟩

set_option maxRecDepth 100000 in
set_option maxHeartbeats 2000000 in
theorem opt_two_plus (s : ByteArray) (p : Nat) (z0 o0 : Int) (w : World) (h : s.size ≤ 1048576) (hp : p < s.size) (hc : byt s p = 43) (h3 : dig s (p + 3) = false) (t1 : dig s (p + 1) = true) (t2 : dig s (p + 2) = true) :
    Calls Tryf.prog 6 #[.string s, .int .i64 p, .int .u8 z0, .int .i64 o0] w fun e w' => e = .returned (.bool true) ∧ Below w.heap.size w w' := by
  have g : decide ((1048576 : Int) < s.size) = false := by simp; omega
  have d0 : decide ((p : Int) < 0) = false := by simp
  have d1 : decide ((s.size : Int) ≤ p) = false := by simp; omega
  have hz1k := zoneR_unwritten z0 o0 h3 (Or.inl hc)
  have hz1z := zoneR_zone (s := s) (p := p) true z0 o0 hc (Or.inl rfl)
  obtain ⟨zA, oA, qA, okA, hzA⟩ : ∃ z o q ok, zoneR s true p z0 o0 = (z, o, q, ok) := ⟨_, _, _, _, rfl⟩
  rw [hzA] at hz1k hz1z
  dsimp only at hz1k hz1z
  subst hz1k
  subst hz1z
  have HZ1 : Hid (zoneR s true p z0 o0 = (43, oA, qA, false)) := hzA
  clear hzA
  have HZ2 : Hid (zoneR s false p z0 o0 = (43, (two s (p + 1) * 60), p + 3, decide (two s (p + 1) ≤ 23))) := by
    show zoneR s false p z0 o0 = (43, (two s (p + 1) * 60), p + 3, decide (two s (p + 1) ≤ 23))
    simpa using zoneR_opt z0 o0 h3 t1 t2 hc (Or.inl rfl)
  have HC : Hid (byt s p = 43) := hc
  rw [byt_in hp] at hc
  have e43' : ((s[p].toNat : Int) == 43) = true := by simp; omega
  have e45' : ((s[p].toNat : Int) == 45) = false := by simp; omega
  have ecr : ((43 : Int) == (s[p].toNat : Int)) = true := by simp; omega
  have hi : (p : Int) < (s.size : Int) := by omega
  have z1 : (0 : Int) ≤ (p : Int) + 1 := by omega
  have z2 : (0 : Int) ≤ (p : Int) + 2 := by omega
  have z3 : (0 : Int) ≤ (p : Int) + 3 := by omega
  clear hc
  have hw3 : (p + 3 < s.size ∧ ∃ (hl : p + 3 < s.size), (decide ((48 : Int) ≤ (s[p + 3].toNat : Int)) && decide ((s[p + 3].toNat : Int) ≤ 57)) = false) ∨ s.size ≤ p + 3 := by
    by_cases hl3 : p + 3 < s.size
    · exact .inl ⟨hl3, hl3, by rw [← h3, dig_in hl3, byt_in hl3]⟩
    · exact .inr (by omega)
  obtain ⟨l1, a1, b1⟩ := dig_true.1 t1
  rw [byt_in l1] at a1 b1
  obtain ⟨l2, a2, b2⟩ := dig_true.1 t2
  rw [byt_in l2] at a2 b2
  have q1 : (p : Int) + 1 < (s.size : Int) := by omega
  have q2 : (p : Int) + 2 < (s.size : Int) := by omega
  have hbt := two_bd t1 t2
  go_enter Tryf.func6, Tryf.ntmps6
  go_wp2_with (go_at_call 14; refine (bytes14_any _ _ _ _ _ h).mono ?_; rintro e w' ⟨rfl, rfl⟩)
  refine (zzReadZone s p true z0 o0 _ hp h _ _ _ _ HZ1.out).mono ?_
  rintro e w1 ⟨⟨er1, her1, rfl⟩, hb1⟩
  go_wp2_with fail
  refine (zzReadZone s p false z0 o0 _ hp h _ _ _ _ HZ2.out).mono ?_
  rintro e w2 ⟨⟨er2, her2, rfl⟩, hb2⟩
  have hbf : Below w.heap.size w w2 := hb1.trans (hb2.mono hb1.size)
  clear hb1 hb2
  clear HZ1 HZ2 HC
  obtain ⟨u1, x1, rfl⟩ : ∃ t x, er1 = .iface t x := by simpa [ErrIs] using her1
  clear her1
  by_cases h23 : two s (p + 1) ≤ 23
  · have d23 : decide (two s (p + 1) ≤ 23) = true := by simpa using h23
    rw [d23] at her2
    obtain rfl : er2 = .nilIface := by simpa [ErrIs] using her2
    clear her2
    rcases hw3 with ⟨hl3, hl3', hdf⟩ | hl3
    · have q3 : (p : Int) + 3 < (s.size : Int) := by omega
      go_wp2_with (first
        | (go_at_call 9; refine (isDigit_raw _ _).mono ?_; rintro e w4 ⟨rfl, rfl⟩)
        | (go_at_call 11; refine (two_int s _ (p + 1) ?_ t1 t2 h _).mono ?_; (omega); rintro e w4 ⟨rfl, n4, rfl⟩))
      go_ret
      exact ⟨rfl, below_drewN hbf _⟩
    · have q3 : decide ((p : Int) + 3 < (s.size : Int)) = false := by simp; omega
      go_wp2_with (first
        | (go_at_call 9; refine (isDigit_raw _ _).mono ?_; rintro e w4 ⟨rfl, rfl⟩)
        | (go_at_call 11; refine (two_int s _ (p + 1) ?_ t1 t2 h _).mono ?_; (omega); rintro e w4 ⟨rfl, n4, rfl⟩))
      go_ret
      exact ⟨rfl, below_drewN hbf _⟩
  · have d23 : decide (two s (p + 1) ≤ 23) = false := by simpa using h23
    rw [d23] at her2
    obtain ⟨u2, x2, rfl⟩ : ∃ t x, er2 = .iface t x := by simpa [ErrIs] using her2
    clear her2
    rcases hw3 with ⟨hl3, hl3', hdf⟩ | hl3
    · have q3 : (p : Int) + 3 < (s.size : Int) := by omega
      go_wp2_with (first
        | (go_at_call 9; refine (isDigit_raw _ _).mono ?_; rintro e w4 ⟨rfl, rfl⟩)
        | (go_at_call 11; refine (two_int s _ (p + 1) ?_ t1 t2 h _).mono ?_; (omega); rintro e w4 ⟨rfl, n4, rfl⟩))
      go_ret
      exact ⟨rfl, below_drewN hbf _⟩
    · have q3 : decide ((p : Int) + 3 < (s.size : Int)) = false := by simp; omega
      go_wp2_with (first
        | (go_at_call 9; refine (isDigit_raw _ _).mono ?_; rintro e w4 ⟨rfl, rfl⟩)
        | (go_at_call 11; refine (two_int s _ (p + 1) ?_ t1 t2 h _).mono ?_; (omega); rintro e w4 ⟨rfl, n4, rfl⟩))
      go_ret
      exact ⟨rfl, below_drewN hbf _⟩

set_option maxRecDepth 100000 in
set_option maxHeartbeats 2000000 in
theorem opt_end_minus (s : ByteArray) (p : Nat) (z0 o0 : Int) (w : World) (h : s.size ≤ 1048576) (hp : p < s.size) (hc : byt s p = 45) (h3 : dig s (p + 3) = false) (he : s.size ≤ p + 2) :
    Calls Tryf.prog 6 #[.string s, .int .i64 p, .int .u8 z0, .int .i64 o0] w fun e w' => e = .returned (.bool true) ∧ Below w.heap.size w w' := by
  have g : decide ((1048576 : Int) < s.size) = false := by simp; omega
  have d0 : decide ((p : Int) < 0) = false := by simp
  have d1 : decide ((s.size : Int) ≤ p) = false := by simp; omega
  have hz1k := zoneR_unwritten z0 o0 h3 (Or.inr hc)
  have hz1z := zoneR_zone (s := s) (p := p) true z0 o0 hc (Or.inr rfl)
  obtain ⟨zA, oA, qA, okA, hzA⟩ : ∃ z o q ok, zoneR s true p z0 o0 = (z, o, q, ok) := ⟨_, _, _, _, rfl⟩
  rw [hzA] at hz1k hz1z
  dsimp only at hz1k hz1z
  subst hz1k
  subst hz1z
  have HZ1 : Hid (zoneR s true p z0 o0 = (45, oA, qA, false)) := hzA
  clear hzA
  have hsh : dig s (p + 1) = false ∨ dig s (p + 2) = false := .inr (dig_out he)
  have hz2k := zoneR_short false z0 o0 hsh (Or.inr hc)
  have hz2z := zoneR_zone (s := s) (p := p) false z0 o0 hc (Or.inr rfl)
  obtain ⟨zB, oB, qB, okB, hzB⟩ : ∃ z o q ok, zoneR s false p z0 o0 = (z, o, q, ok) := ⟨_, _, _, _, rfl⟩
  rw [hzB] at hz2k hz2z
  dsimp only at hz2k hz2z
  subst hz2k
  subst hz2z
  have HZ2 : Hid (zoneR s false p z0 o0 = (45, oB, qB, false)) := hzB
  clear hzB
  have HC : Hid (byt s p = 45) := hc
  rw [byt_in hp] at hc
  have e43' : ((s[p].toNat : Int) == 43) = false := by simp; omega
  have e45' : ((s[p].toNat : Int) == 45) = true := by simp; omega
  have ecr : ((45 : Int) == (s[p].toNat : Int)) = true := by simp; omega
  have hi : (p : Int) < (s.size : Int) := by omega
  have z1 : (0 : Int) ≤ (p : Int) + 1 := by omega
  have z2 : (0 : Int) ≤ (p : Int) + 2 := by omega
  have z3 : (0 : Int) ≤ (p : Int) + 3 := by omega
  clear hc
  have q2 : decide ((p : Int) + 2 < (s.size : Int)) = false := by simp; omega
  have q3 : decide ((p : Int) + 3 < (s.size : Int)) = false := by simp; omega
  go_enter Tryf.func6, Tryf.ntmps6
  go_wp2_with (go_at_call 14; refine (bytes14_any _ _ _ _ _ h).mono ?_; rintro e w' ⟨rfl, rfl⟩)
  refine (zzReadZone s p true z0 o0 _ hp h _ _ _ _ HZ1.out).mono ?_
  rintro e w1 ⟨⟨er1, her1, rfl⟩, hb1⟩
  go_wp2_with fail
  refine (zzReadZone s p false z0 o0 _ hp h _ _ _ _ HZ2.out).mono ?_
  rintro e w2 ⟨⟨er2, her2, rfl⟩, hb2⟩
  have hbf : Below w.heap.size w w2 := hb1.trans (hb2.mono hb1.size)
  clear hb1 hb2
  clear HZ1 HZ2 HC
  obtain ⟨t1, x1, rfl⟩ : ∃ t x, er1 = .iface t x := by simpa [ErrIs] using her1
  obtain ⟨t2, x2, rfl⟩ : ∃ t x, er2 = .iface t x := by simpa [ErrIs] using her2
  clear her1 her2
  go_wp2
  go_ret
  exact ⟨rfl, hbf⟩

set_option maxRecDepth 100000 in
set_option maxHeartbeats 2000000 in
theorem opt_none_minus (s : ByteArray) (p : Nat) (z0 o0 : Int) (w : World) (h : s.size ≤ 1048576) (hp : p < s.size) (hc : byt s p = 45) (h3 : dig s (p + 3) = false) (he : p + 2 < s.size) (hd : dig s (p + 1) = false) :
    Calls Tryf.prog 6 #[.string s, .int .i64 p, .int .u8 z0, .int .i64 o0] w fun e w' => e = .returned (.bool true) ∧ Below w.heap.size w w' := by
  have g : decide ((1048576 : Int) < s.size) = false := by simp; omega
  have d0 : decide ((p : Int) < 0) = false := by simp
  have d1 : decide ((s.size : Int) ≤ p) = false := by simp; omega
  have hz1k := zoneR_unwritten z0 o0 h3 (Or.inr hc)
  have hz1z := zoneR_zone (s := s) (p := p) true z0 o0 hc (Or.inr rfl)
  obtain ⟨zA, oA, qA, okA, hzA⟩ : ∃ z o q ok, zoneR s true p z0 o0 = (z, o, q, ok) := ⟨_, _, _, _, rfl⟩
  rw [hzA] at hz1k hz1z
  dsimp only at hz1k hz1z
  subst hz1k
  subst hz1z
  have HZ1 : Hid (zoneR s true p z0 o0 = (45, oA, qA, false)) := hzA
  clear hzA
  have hsh : dig s (p + 1) = false ∨ dig s (p + 2) = false := .inl hd
  have hz2k := zoneR_short false z0 o0 hsh (Or.inr hc)
  have hz2z := zoneR_zone (s := s) (p := p) false z0 o0 hc (Or.inr rfl)
  obtain ⟨zB, oB, qB, okB, hzB⟩ : ∃ z o q ok, zoneR s false p z0 o0 = (z, o, q, ok) := ⟨_, _, _, _, rfl⟩
  rw [hzB] at hz2k hz2z
  dsimp only at hz2k hz2z
  subst hz2k
  subst hz2z
  have HZ2 : Hid (zoneR s false p z0 o0 = (45, oB, qB, false)) := hzB
  clear hzB
  have HC : Hid (byt s p = 45) := hc
  rw [byt_in hp] at hc
  have e43' : ((s[p].toNat : Int) == 43) = false := by simp; omega
  have e45' : ((s[p].toNat : Int) == 45) = true := by simp; omega
  have ecr : ((45 : Int) == (s[p].toNat : Int)) = true := by simp; omega
  have hi : (p : Int) < (s.size : Int) := by omega
  have z1 : (0 : Int) ≤ (p : Int) + 1 := by omega
  have z2 : (0 : Int) ≤ (p : Int) + 2 := by omega
  have z3 : (0 : Int) ≤ (p : Int) + 3 := by omega
  clear hc
  have hw3 : (p + 3 < s.size ∧ ∃ (hl : p + 3 < s.size), (decide ((48 : Int) ≤ (s[p + 3].toNat : Int)) && decide ((s[p + 3].toNat : Int) ≤ 57)) = false) ∨ s.size ≤ p + 3 := by
    by_cases hl3 : p + 3 < s.size
    · exact .inl ⟨hl3, hl3, by rw [← h3, dig_in hl3, byt_in hl3]⟩
    · exact .inr (by omega)
  have l1 : p + 1 < s.size := by omega
  have q1 : (p : Int) + 1 < (s.size : Int) := by omega
  have q2 : (p : Int) + 2 < (s.size : Int) := by omega
  have hd1 : (decide ((48 : Int) ≤ (s[p + 1].toNat : Int)) && decide ((s[p + 1].toNat : Int) ≤ 57)) = false := by rw [← hd, dig_in l1, byt_in l1]
  go_enter Tryf.func6, Tryf.ntmps6
  go_wp2_with (go_at_call 14; refine (bytes14_any _ _ _ _ _ h).mono ?_; rintro e w' ⟨rfl, rfl⟩)
  refine (zzReadZone s p true z0 o0 _ hp h _ _ _ _ HZ1.out).mono ?_
  rintro e w1 ⟨⟨er1, her1, rfl⟩, hb1⟩
  go_wp2_with fail
  refine (zzReadZone s p false z0 o0 _ hp h _ _ _ _ HZ2.out).mono ?_
  rintro e w2 ⟨⟨er2, her2, rfl⟩, hb2⟩
  have hbf : Below w.heap.size w w2 := hb1.trans (hb2.mono hb1.size)
  clear hb1 hb2
  clear HZ1 HZ2 HC
  obtain ⟨t1, x1, rfl⟩ : ∃ t x, er1 = .iface t x := by simpa [ErrIs] using her1
  obtain ⟨t2, x2, rfl⟩ : ∃ t x, er2 = .iface t x := by simpa [ErrIs] using her2
  clear her1 her2
  rcases hw3 with ⟨hl3, hl3', hdf⟩ | hl3
  · have q3 : (p : Int) + 3 < (s.size : Int) := by omega
    go_wp2_with (first
      | (go_at_call 9; refine (isDigit_raw _ _).mono ?_; rintro e w4 ⟨rfl, rfl⟩))
    go_ret
    exact ⟨rfl, hbf⟩
  · have q3 : decide ((p : Int) + 3 < (s.size : Int)) = false := by simp; omega
    go_wp2_with (first
      | (go_at_call 9; refine (isDigit_raw _ _).mono ?_; rintro e w4 ⟨rfl, rfl⟩))
    go_ret
    exact ⟨rfl, hbf⟩

set_option maxRecDepth 100000 in
set_option maxHeartbeats 2000000 in
theorem opt_one_minus (s : ByteArray) (p : Nat) (z0 o0 : Int) (w : World) (h : s.size ≤ 1048576) (hp : p < s.size) (hc : byt s p = 45) (h3 : dig s (p + 3) = false) (he : p + 2 < s.size) (hd0 : dig s (p + 1) = true) (hd : dig s (p + 2) = false) :
    Calls Tryf.prog 6 #[.string s, .int .i64 p, .int .u8 z0, .int .i64 o0] w fun e w' => e = .returned (.bool true) ∧ Below w.heap.size w w' := by
  have g : decide ((1048576 : Int) < s.size) = false := by simp; omega
  have d0 : decide ((p : Int) < 0) = false := by simp
  have d1 : decide ((s.size : Int) ≤ p) = false := by simp; omega
  have hz1k := zoneR_unwritten z0 o0 h3 (Or.inr hc)
  have hz1z := zoneR_zone (s := s) (p := p) true z0 o0 hc (Or.inr rfl)
  obtain ⟨zA, oA, qA, okA, hzA⟩ : ∃ z o q ok, zoneR s true p z0 o0 = (z, o, q, ok) := ⟨_, _, _, _, rfl⟩
  rw [hzA] at hz1k hz1z
  dsimp only at hz1k hz1z
  subst hz1k
  subst hz1z
  have HZ1 : Hid (zoneR s true p z0 o0 = (45, oA, qA, false)) := hzA
  clear hzA
  have hsh : dig s (p + 1) = false ∨ dig s (p + 2) = false := .inr hd
  have hz2k := zoneR_short false z0 o0 hsh (Or.inr hc)
  have hz2z := zoneR_zone (s := s) (p := p) false z0 o0 hc (Or.inr rfl)
  obtain ⟨zB, oB, qB, okB, hzB⟩ : ∃ z o q ok, zoneR s false p z0 o0 = (z, o, q, ok) := ⟨_, _, _, _, rfl⟩
  rw [hzB] at hz2k hz2z
  dsimp only at hz2k hz2z
  subst hz2k
  subst hz2z
  have HZ2 : Hid (zoneR s false p z0 o0 = (45, oB, qB, false)) := hzB
  clear hzB
  have HC : Hid (byt s p = 45) := hc
  rw [byt_in hp] at hc
  have e43' : ((s[p].toNat : Int) == 43) = false := by simp; omega
  have e45' : ((s[p].toNat : Int) == 45) = true := by simp; omega
  have ecr : ((45 : Int) == (s[p].toNat : Int)) = true := by simp; omega
  have hi : (p : Int) < (s.size : Int) := by omega
  have z1 : (0 : Int) ≤ (p : Int) + 1 := by omega
  have z2 : (0 : Int) ≤ (p : Int) + 2 := by omega
  have z3 : (0 : Int) ≤ (p : Int) + 3 := by omega
  clear hc
  have hw3 : (p + 3 < s.size ∧ ∃ (hl : p + 3 < s.size), (decide ((48 : Int) ≤ (s[p + 3].toNat : Int)) && decide ((s[p + 3].toNat : Int) ≤ 57)) = false) ∨ s.size ≤ p + 3 := by
    by_cases hl3 : p + 3 < s.size
    · exact .inl ⟨hl3, hl3, by rw [← h3, dig_in hl3, byt_in hl3]⟩
    · exact .inr (by omega)
  obtain ⟨l1, a1, b1⟩ := dig_true.1 hd0
  rw [byt_in l1] at a1 b1
  have q1 : (p : Int) + 1 < (s.size : Int) := by omega
  have q2 : (p : Int) + 2 < (s.size : Int) := by omega
  have hd2 : (decide ((48 : Int) ≤ (s[p + 2].toNat : Int)) && decide ((s[p + 2].toNat : Int) ≤ 57)) = false := by rw [← hd, dig_in he, byt_in he]
  go_enter Tryf.func6, Tryf.ntmps6
  go_wp2_with (go_at_call 14; refine (bytes14_any _ _ _ _ _ h).mono ?_; rintro e w' ⟨rfl, rfl⟩)
  refine (zzReadZone s p true z0 o0 _ hp h _ _ _ _ HZ1.out).mono ?_
  rintro e w1 ⟨⟨er1, her1, rfl⟩, hb1⟩
  go_wp2_with fail
  refine (zzReadZone s p false z0 o0 _ hp h _ _ _ _ HZ2.out).mono ?_
  rintro e w2 ⟨⟨er2, her2, rfl⟩, hb2⟩
  have hbf : Below w.heap.size w w2 := hb1.trans (hb2.mono hb1.size)
  clear hb1 hb2
  clear HZ1 HZ2 HC
  obtain ⟨t1, x1, rfl⟩ : ∃ t x, er1 = .iface t x := by simpa [ErrIs] using her1
  obtain ⟨t2, x2, rfl⟩ : ∃ t x, er2 = .iface t x := by simpa [ErrIs] using her2
  clear her1 her2
  rcases hw3 with ⟨hl3, hl3', hdf⟩ | hl3
  · have q3 : (p : Int) + 3 < (s.size : Int) := by omega
    go_wp2_with (first
      | (go_at_call 9; refine (isDigit_raw _ _).mono ?_; rintro e w4 ⟨rfl, rfl⟩))
    go_ret
    exact ⟨rfl, hbf⟩
  · have q3 : decide ((p : Int) + 3 < (s.size : Int)) = false := by simp; omega
    go_wp2_with (first
      | (go_at_call 9; refine (isDigit_raw _ _).mono ?_; rintro e w4 ⟨rfl, rfl⟩))
    go_ret
    exact ⟨rfl, hbf⟩

set_option maxRecDepth 100000 in
set_option maxHeartbeats 2000000 in
theorem opt_two_minus (s : ByteArray) (p : Nat) (z0 o0 : Int) (w : World) (h : s.size ≤ 1048576) (hp : p < s.size) (hc : byt s p = 45) (h3 : dig s (p + 3) = false) (t1 : dig s (p + 1) = true) (t2 : dig s (p + 2) = true) :
    Calls Tryf.prog 6 #[.string s, .int .i64 p, .int .u8 z0, .int .i64 o0] w fun e w' => e = .returned (.bool true) ∧ Below w.heap.size w w' := by
  have g : decide ((1048576 : Int) < s.size) = false := by simp; omega
  have d0 : decide ((p : Int) < 0) = false := by simp
  have d1 : decide ((s.size : Int) ≤ p) = false := by simp; omega
  have hz1k := zoneR_unwritten z0 o0 h3 (Or.inr hc)
  have hz1z := zoneR_zone (s := s) (p := p) true z0 o0 hc (Or.inr rfl)
  obtain ⟨zA, oA, qA, okA, hzA⟩ : ∃ z o q ok, zoneR s true p z0 o0 = (z, o, q, ok) := ⟨_, _, _, _, rfl⟩
  rw [hzA] at hz1k hz1z
  dsimp only at hz1k hz1z
  subst hz1k
  subst hz1z
  have HZ1 : Hid (zoneR s true p z0 o0 = (45, oA, qA, false)) := hzA
  clear hzA
  have HZ2 : Hid (zoneR s false p z0 o0 = (45, -(two s (p + 1) * 60), p + 3, decide (two s (p + 1) ≤ 23))) := by
    show zoneR s false p z0 o0 = (45, -(two s (p + 1) * 60), p + 3, decide (two s (p + 1) ≤ 23))
    simpa using zoneR_opt z0 o0 h3 t1 t2 hc (Or.inr rfl)
  have HC : Hid (byt s p = 45) := hc
  rw [byt_in hp] at hc
  have e43' : ((s[p].toNat : Int) == 43) = false := by simp; omega
  have e45' : ((s[p].toNat : Int) == 45) = true := by simp; omega
  have ecr : ((45 : Int) == (s[p].toNat : Int)) = true := by simp; omega
  have hi : (p : Int) < (s.size : Int) := by omega
  have z1 : (0 : Int) ≤ (p : Int) + 1 := by omega
  have z2 : (0 : Int) ≤ (p : Int) + 2 := by omega
  have z3 : (0 : Int) ≤ (p : Int) + 3 := by omega
  clear hc
  have hw3 : (p + 3 < s.size ∧ ∃ (hl : p + 3 < s.size), (decide ((48 : Int) ≤ (s[p + 3].toNat : Int)) && decide ((s[p + 3].toNat : Int) ≤ 57)) = false) ∨ s.size ≤ p + 3 := by
    by_cases hl3 : p + 3 < s.size
    · exact .inl ⟨hl3, hl3, by rw [← h3, dig_in hl3, byt_in hl3]⟩
    · exact .inr (by omega)
  obtain ⟨l1, a1, b1⟩ := dig_true.1 t1
  rw [byt_in l1] at a1 b1
  obtain ⟨l2, a2, b2⟩ := dig_true.1 t2
  rw [byt_in l2] at a2 b2
  have q1 : (p : Int) + 1 < (s.size : Int) := by omega
  have q2 : (p : Int) + 2 < (s.size : Int) := by omega
  have hbt := two_bd t1 t2
  go_enter Tryf.func6, Tryf.ntmps6
  go_wp2_with (go_at_call 14; refine (bytes14_any _ _ _ _ _ h).mono ?_; rintro e w' ⟨rfl, rfl⟩)
  refine (zzReadZone s p true z0 o0 _ hp h _ _ _ _ HZ1.out).mono ?_
  rintro e w1 ⟨⟨er1, her1, rfl⟩, hb1⟩
  go_wp2_with fail
  refine (zzReadZone s p false z0 o0 _ hp h _ _ _ _ HZ2.out).mono ?_
  rintro e w2 ⟨⟨er2, her2, rfl⟩, hb2⟩
  have hbf : Below w.heap.size w w2 := hb1.trans (hb2.mono hb1.size)
  clear hb1 hb2
  clear HZ1 HZ2 HC
  obtain ⟨u1, x1, rfl⟩ : ∃ t x, er1 = .iface t x := by simpa [ErrIs] using her1
  clear her1
  by_cases h23 : two s (p + 1) ≤ 23
  · have d23 : decide (two s (p + 1) ≤ 23) = true := by simpa using h23
    rw [d23] at her2
    obtain rfl : er2 = .nilIface := by simpa [ErrIs] using her2
    clear her2
    rcases hw3 with ⟨hl3, hl3', hdf⟩ | hl3
    · have q3 : (p : Int) + 3 < (s.size : Int) := by omega
      go_wp2_with (first
        | (go_at_call 9; refine (isDigit_raw _ _).mono ?_; rintro e w4 ⟨rfl, rfl⟩)
        | (go_at_call 11; refine (two_int s _ (p + 1) ?_ t1 t2 h _).mono ?_; (omega); rintro e w4 ⟨rfl, n4, rfl⟩))
      go_ret
      exact ⟨rfl, below_drewN hbf _⟩
    · have q3 : decide ((p : Int) + 3 < (s.size : Int)) = false := by simp; omega
      go_wp2_with (first
        | (go_at_call 9; refine (isDigit_raw _ _).mono ?_; rintro e w4 ⟨rfl, rfl⟩)
        | (go_at_call 11; refine (two_int s _ (p + 1) ?_ t1 t2 h _).mono ?_; (omega); rintro e w4 ⟨rfl, n4, rfl⟩))
      go_ret
      exact ⟨rfl, below_drewN hbf _⟩
  · have d23 : decide (two s (p + 1) ≤ 23) = false := by simpa using h23
    rw [d23] at her2
    obtain ⟨u2, x2, rfl⟩ : ∃ t x, er2 = .iface t x := by simpa [ErrIs] using her2
    clear her2
    rcases hw3 with ⟨hl3, hl3', hdf⟩ | hl3
    · have q3 : (p : Int) + 3 < (s.size : Int) := by omega
      go_wp2_with (first
        | (go_at_call 9; refine (isDigit_raw _ _).mono ?_; rintro e w4 ⟨rfl, rfl⟩)
        | (go_at_call 11; refine (two_int s _ (p + 1) ?_ t1 t2 h _).mono ?_; (omega); rintro e w4 ⟨rfl, n4, rfl⟩))
      go_ret
      exact ⟨rfl, below_drewN hbf _⟩
    · have q3 : decide ((p : Int) + 3 < (s.size : Int)) = false := by simp; omega
      go_wp2_with (first
        | (go_at_call 9; refine (isDigit_raw _ _).mono ?_; rintro e w4 ⟨rfl, rfl⟩)
        | (go_at_call 11; refine (two_int s _ (p + 1) ?_ t1 t2 h _).mono ?_; (omega); rintro e w4 ⟨rfl, n4, rfl⟩))
      go_ret
      exact ⟨rfl, below_drewN hbf _⟩

theorem opt_any (s : ByteArray) (x : Int) (z0 o0 : Int) (w : World) :
    Calls Tryf.prog 6 #[.string s, .int .i64 x, .int .u8 z0, .int .i64 o0] w fun e w' => e = .returned (.bool true) ∧ Below w.heap.size w w' := by
  by_cases h : s.size ≤ 1048576
  · by_cases ho : x < 0 ∨ s.size ≤ x
    · exact opt_out s x z0 o0 w h ho
    · obtain ⟨p, rfl⟩ := Int.eq_ofNat_of_zero_le (show 0 ≤ x by omega)
      have hp : p < s.size := by omega
      by_cases h2 : byt s p = 43
      · cases h3 : dig s (p + 3)
        · by_cases he : s.size ≤ p + 2
          · exact opt_end_plus s p z0 o0 w h hp h2 h3 he
          · cases hd : dig s (p + 1)
            · exact opt_none_plus s p z0 o0 w h hp h2 h3 (by omega) hd
            · cases hd2 : dig s (p + 2)
              · exact opt_one_plus s p z0 o0 w h hp h2 h3 (by omega) hd hd2
              · exact opt_two_plus s p z0 o0 w h hp h2 h3 hd hd2
        · exact opt_written_plus s p z0 o0 w h hp h2 h3
      by_cases h2' : byt s p = 45
      · cases h3 : dig s (p + 3)
        · by_cases he : s.size ≤ p + 2
          · exact opt_end_minus s p z0 o0 w h hp h2' h3 he
          · cases hd : dig s (p + 1)
            · exact opt_none_minus s p z0 o0 w h hp h2' h3 (by omega) hd
            · cases hd2 : dig s (p + 2)
              · exact opt_one_minus s p z0 o0 w h hp h2' h3 (by omega) hd hd2
              · exact opt_two_minus s p z0 o0 w h hp h2' h3 hd hd2
        · exact opt_written_minus s p z0 o0 w h hp h2' h3
      exact opt_plain s p z0 o0 w h hp h2 h2'
  · exact opt_long s x z0 o0 w (by omega)
end Go.Proofs.Qxb6616501aFmt
