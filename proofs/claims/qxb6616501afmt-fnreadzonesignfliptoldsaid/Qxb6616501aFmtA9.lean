import Derived.Test.Qxb6616501aFmtA8
namespace Go.Proofs.Qxb6616501aFmt
open Go.RowKit

set_option maxRecDepth 100000 in
set_option maxHeartbeats 2000000 in
theorem flip_minus (s : ByteArray) (p : Nat) (due : Bool) (z0 o0 : Int) (w : World) (h : s.size ≤ 1048576) (hp : p < s.size) (hc : byt s p = 45) :
    Calls Tryf.prog 5 #[.string s, .int .i64 p, .bool due, .int .u8 z0, .int .i64 o0] w fun e w' => e = .returned (.bool true) ∧ Below w.heap.size w w' := by
  have g : decide ((1048576 : Int) < s.size) = false := by simp; omega
  have d0 : decide ((p : Int) < 0) = false := by simp
  have d1 : decide ((s.size : Int) ≤ p) = false := by simp; omega
  obtain ⟨o, q, ok, hz⟩ : ∃ o q ok, zoneR s due p z0 o0 = (45, o, q, ok) := ⟨_, _, _, by unfold zoneR; simp only [hc]; rfl⟩
  have HZ : Hid (zoneR s due p z0 o0 = (45, o, q, ok)) := hz
  have HC : Hid (byt s p = 45) := hc
  rw [byt_in hp] at hc
  have e90 : ((s[p].toNat : Int) == 90) = false := by simp; omega
  have e43 : ((s[p].toNat : Int) != 43) = true := by rw [bne_iff_ne]; omega
  have e43' : ((s[p].toNat : Int) == 43) = false := by simp; omega
  have ecr : ((45 : Int) != (s[p].toNat : Int)) = false := by simp; omega
  have e45 : ((s[p].toNat : Int) != 45) = false := by simp; omega
  have e45' : ((s[p].toNat : Int) == 45) = true := by simp; omega
  have hi : (p : Int) < (s.size : Int) := by omega
  have hi1 : (p : Int) + 1 ≤ (s.size : Int) := by omega
  have z1 : (0 : Int) ≤ (p : Int) + 1 := by omega
  clear hz hc
  go_enter Tryf.func5, Tryf.ntmps5
  go_wp2_with (first
    | (go_at_call 13; refine (bytes13_any _ _ _ _ _ _ h).mono ?_; rintro e w' ⟨rfl, rfl⟩)
    | (go_at_call 10; refine (zzReadZone s p due z0 o0 _ hp h _ _ _ _ HZ.out).mono ?_; rintro e w1 ⟨⟨er, her, rfl⟩, hb⟩; have hconv := conv_one w1 43 43 rfl))
  go_region
  go_wp2_with fail
  have hfl := flip_alike s p 43 hp
  generalize s.extract 0 p ++ ⟨#[43]⟩ ++ s.extract (p + 1) s.size = t at *
  have hrr := (zoneR_flip due z0 o0 hfl.1 HC.out hfl.2 (.inr ⟨rfl, rfl⟩)).2
  rw [HZ.out] at hrr
  have htz : t.size = s.size := hfl.1.1
  have hbd := zoneR_off_bd (due := due) z0 o0 (Or.inr HC.out)
  rw [HZ.out] at hbd
  dsimp only at hbd
  have hbw : Below w.heap.size w (w1.alloc (.cells #[.int .u8 43] 5)).drew := (hb.alloc hb.size _).drew
  generalize (w1.alloc (.cells #[.int .u8 43] 5)).drew = w2 at *
  refine (zzReadZone t p due z0 o0 w2 (by omega) (by omega) _ _ _ _ hrr).mono ?_
  rintro e w3 ⟨⟨er', her', rfl⟩, hb3⟩
  have hbf : Below w.heap.size w w3 := hbw.trans (hb3.mono hbw.size)
  have HOK := fun (hk : ok = true) => zoneR_ok (by rw [← hk]; exact HZ.out) (Or.inr HC.out)
  rw [HC.out] at HOK
  clear hfl hrr htz hb hbw hb3 hconv HZ HC
  cases ok
  · obtain ⟨t1, x1, rfl⟩ : ∃ t x, er = .iface t x := by simpa [ErrIs] using her
    obtain ⟨t2, x2, rfl⟩ : ∃ t x, er' = .iface t x := by simpa [ErrIs] using her'
    clear HOK
    go_wp2
    go_quiet (fail)
    go_wp2
    go_ret
    exact ⟨rfl, below_drewN hbf _⟩
  · obtain rfl : er = .nilIface := by simpa [ErrIs] using her
    obtain rfl : er' = .nilIface := by simpa [ErrIs] using her'
    obtain ⟨t1, t2, t3, hq⟩ := HOK rfl
    clear HOK her her'
    obtain ⟨l1, a1, b1⟩ := dig_true.1 t1
    obtain ⟨l2, a2, b2⟩ := dig_true.1 t2
    rw [byt_in l1] at a1 b1
    rw [byt_in l2] at a2 b2
    have hb1 := two_bd t1 t2
    rcases hq with ⟨rfl, rfl, t4, ho⟩ | ⟨rfl, t4, t5, t6, ho⟩
    · have ho' : o = -(two s (p + 1) * 60) := by simpa using ho
      subst ho'
      clear ho
      have q1 : (p : Int) + 3 ≤ (s.size : Int) := by omega
      have q2 : decide ((s.size : Int) < (p : Int) + 3) = false := by simp; omega
      by_cases hl3 : p + 3 < s.size
      · have hdf : (decide ((48 : Int) ≤ (s[p + 3].toNat : Int)) && decide ((s[p + 3].toNat : Int) ≤ 57)) = false := by rw [← t4, dig_in hl3, byt_in hl3]
        go_wp2
        go_quiet (fail)
        go_wp2_with (first
          | (go_at_call 9; refine (isDigit_raw _ _).mono ?_; rintro e w4 ⟨rfl, rfl⟩)
          | (go_at_call 11; refine (two_int s _ (p + 1) ?_ t1 t2 h _).mono ?_; (omega); rintro e w4 ⟨rfl, n4, rfl⟩))
        go_ret
        exact ⟨rfl, below_drewN hbf _⟩
      · have hl3' : decide ((p : Int) + 3 < (s.size : Int)) = false := by simp; omega
        go_wp2
        go_quiet (fail)
        go_wp2_with (first
          | (go_at_call 9; refine (isDigit_raw _ _).mono ?_; rintro e w4 ⟨rfl, rfl⟩)
          | (go_at_call 11; refine (two_int s _ (p + 1) ?_ t1 t2 h _).mono ?_; (omega); rintro e w4 ⟨rfl, n4, rfl⟩))
        go_ret
        exact ⟨rfl, below_drewN hbf _⟩
    · have ho' : o = -(two s (p + 1) * 60 + two s (p + 3)) := by simpa using ho
      subst ho'
      clear ho
      obtain ⟨l3, a3, b3⟩ := dig_true.1 t4
      obtain ⟨l4, a4, b4⟩ := dig_true.1 t5
      rw [byt_in l3] at a3 b3
      rw [byt_in l4] at a4 b4
      have hb2 := two_bd t4 t5
      have q1 : (p : Int) + 5 ≤ (s.size : Int) := by omega
      have q2 : decide ((s.size : Int) < (p : Int) + 5) = false := by simp; omega
      go_wp2
      go_quiet (fail)
      go_wp2_with (first
        | (go_at_call 9; refine (isDigit_raw _ _).mono ?_; rintro e w4 ⟨rfl, rfl⟩)
        | (go_at_call 11; refine (two_int s _ (p + 1) ?_ t1 t2 h _).mono ?_; (omega); rintro e w4 ⟨rfl, n4, rfl⟩)
        | (go_at_call 11; refine (two_int s _ (p + 3) ?_ t4 t5 h _).mono ?_; (omega); rintro e w4 ⟨rfl, n4, rfl⟩))
      go_ret
      exact ⟨rfl, below_drewN hbf _⟩

end Go.Proofs.Qxb6616501aFmt
