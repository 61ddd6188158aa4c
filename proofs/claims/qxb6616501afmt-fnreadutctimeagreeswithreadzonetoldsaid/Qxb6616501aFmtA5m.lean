import Derived.Test.Qxb6616501aFmtA4
namespace Go.Proofs.Qxb6616501aFmt
open Go.RowKit

set_option maxRecDepth 100000 in
set_option maxHeartbeats 4000000 in
theorem readZone_minus (f b : Nat) (s : ByteArray) (p : Nat) (due : Bool) (y mo d hh mi se un z0 o0 : Int) (w : World) (hs : Sc w b s p .nilIface) (ht : Tf w f y mo d hh mi se un z0 o0)
    (hp : p < s.size) (hz : s.size ≤ 1048576) (hfb : f ≠ b) (B : Nat) (hB1 : B ≤ f) (hB2 : B ≤ b) (hc : byt s p = 45) (H M : Int) (Q : Nat) (OK : Bool) (hH : hm s due (p + 1) = (H, M, Q, OK)) :
    Calls Tryf.prog 16 #[.pointer (some ⟨f, 0, none⟩), .pointer (some ⟨b, 0, none⟩), .bool due] w fun e w' => e = .returned (.tuple #[]) ∧
      (∃ er, ErrIs (OK && decide (H ≤ 23) && decide (M ≤ 59)) er ∧ Sc w' b s Q er) ∧ Tf w' f y mo d hh mi se un 45 (-(H * 60 + M)) ∧ Below B w w' := by
  have c0 := hs.c0
  have c1 := hs.c1
  have c2 := hs.c2
  have f1 := hs.fz 1
  have f9 := ht.fz 9
  have k9 := ht.c9
  rw [byt_in hp] at hc
  have e90 : ((s[p].toNat : Int) == 90) = false := by simp; omega
  have e43 : ((s[p].toNat : Int) == 43) = false := by simp; omega
  have e45 : ((s[p].toNat : Int) == 45) = true := by simp; omega
  have hi : (p : Int) < (s.size : Int) := by omega
  have HC : Hid ((s[p].toNat : Int) = 45) := hc
  have HH : Hid (hm s due (p + 1) = (H, M, Q, OK)) := hH
  have hne : ¬ b = f := fun e => hfb e.symm
  clear hc hH
  go_enter Tryf.func16, Tryf.ntmps16
  go_wp2
  go_quiet (fail)
  go_wp2_with fail
  have hs1 := (sc_next hs nq).other hfb 9 (.int .u8 (s[p].toNat : Int))
  have ht1 : Tf (((w.drewN nq).setCell ⟨b, 1, none⟩ (.int .i64 ((p : Int) + 1))).setCell ⟨f, 9, none⟩ (.int .u8 (s[p].toNat : Int))) f y mo d hh mi se un 45 o0 := by
    rw [HC.out]
    exact (Tf.other (w := w.drewN nq) ht hfb _ _).set9 45
  have hb1 : Below B w (((w.drewN nq).setCell ⟨b, 1, none⟩ (.int .i64 ((p : Int) + 1))).setCell ⟨f, 9, none⟩ (.int .u8 (s[p].toNat : Int))) :=
    below_set (below_set (below_drewN (Below.refl _ _) _) hB2 _ _) hB1 _ _
  generalize (((w.drewN nq).setCell ⟨b, 1, none⟩ (.int .i64 ((p : Int) + 1))).setCell ⟨f, 9, none⟩ (.int .u8 (s[p].toNat : Int))) = w1 at *
  clear c0 c1 c2 f1 f9 k9 hs ht HC
  refine (number_ok b s (p + 1) _ w1 hs1 (by omega) hz (by decide)).mono ?_
  rintro e w2 ⟨rfl, ⟨er2, he2, hs2⟩, hg2⟩
  have ht2 := ht1.grown hg2 (by simpa using hfb)
  have hb2 : Below B w w2 := hb1.grown hg2 (Nat.le_trans hB2 (Nat.le_of_lt hs1.lt)) (fun k hk => by obtain rfl := Option.some.inj hk; exact hB2)
  have hv := numTo_v s (p + 1) 2 (by omega)
  have hq := numTo_le s (p + 1) (by omega) 2
  obtain ⟨h, q, ok, hnk⟩ : ∃ v q ok, numTo s (p + 1) 2 = (v, q, ok) := ⟨_, _, _, rfl⟩
  rw [hnk] at he2 hs2 hv hq
  rw [hnk]
  dsimp only at he2 hs2 hv hq
  have HN : Hid (numTo s (p + 1) 2 = (h, q, ok)) := hnk
  clear hnk hg2 hs1 ht1 hb1
  cases ok
  · obtain ⟨t, x, rfl⟩ : ∃ t x, er2 = .iface t x := by simpa [ErrIs] using he2
    have hh2 : hm s due (p + 1) = (h, 0, q, false) := by simp [hm, HN.out]
    have hq3 := HH.out
    rw [hh2] at hq3
    simp only [Prod.mk.injEq] at hq3
    obtain ⟨rfl, rfl, rfl, rfl⟩ := hq3
    clear hh2
    have hnd := num2_stop HN.out
    have hs3 := hs2
    have ht3 := ht2
    have hb3 := hb2
    clear he2 HH HN
    cases due
    · go_wp2_with (go_at_call 18; refine (digitNext_any b s q _ _ hs2).mono ?_; rw [hnd]; rintro e w3 ⟨rfl, n3, rfl⟩; have hs3 := hs2.drewN n3; have ht3 : Tf (w2.drewN n3) f y mo d hh mi se un 45 o0 := ht2; have hb3 : Below B w (w2.drewN n3) := below_drewN hb2 n3; have k2 := hs3.c2; have k10 := ht3.c10; have k10f := ht3.fz 10)
      go_end0
      try rw [Int.add_zero]
      exact ⟨rfl, ⟨.iface t x, errHeld _ _, (hs3.other hfb 10 (.int .i64 _)).other hfb 10 (.int .i64 _)⟩, (ht3.set10 _).set10 _, below_set (below_set hb3 hB1 10 (.int .i64 _)) hB1 10 (.int .i64 _)⟩
    · go_wp2_with (go_at_call 17; refine (number_held b s q _ _ _ _ hs2).mono ?_; rintro e w3 ⟨rfl, rfl⟩; have k2 := hs3.c2; have k10 := ht3.c10; have k10f := ht3.fz 10)
      go_end0
      try rw [Int.add_zero]
      exact ⟨rfl, ⟨.iface t x, errHeld _ _, (hs3.other hfb 10 (.int .i64 _)).other hfb 10 (.int .i64 _)⟩, (ht3.set10 _).set10 _, below_set (below_set hb3 hB1 10 (.int .i64 _)) hB1 10 (.int .i64 _)⟩
  · obtain rfl : er2 = .nilIface := by simpa [ErrIs] using he2
    clear he2
    by_cases hdd : due = true ∨ dig s q = true
    · have hmn : mins s due q = numTo s q 2 := by unfold mins; rw [if_pos]; simpa using hdd
      have hh2 : hm s due (p + 1) = (h, (numTo s q 2).1, (numTo s q 2).2.1, (numTo s q 2).2.2) := by simp [hm, HN.out, hmn]
      have hv2 := numTo_v s q 2 (by omega)
      have HV2 : Hid (hm s due (p + 1) = (h, (numTo s q 2).1, (numTo s q 2).2.1, (numTo s q 2).2.2)) := hh2
      have hq2 := numTo_le s q hq 2
      clear hh2 hmn
      have key : Hid (∀ (w0 : World) (what : ByteArray), what.size ≤ 1000 → Sc w0 b s q .nilIface → Tf w0 f y mo d hh mi se un 45 o0 → Below B w w0 → Calls Tryf.prog 17 #[.pointer (some ⟨b, 0, none⟩), .int .i64 2, .string what] w0 fun e w' => e = .returned (.int .i64 (numTo s q 2).1) ∧
        (∃ er, ErrIs (numTo s q 2).2.2 er ∧ Sc w' b s (numTo s q 2).2.1 er) ∧ Tf w' f y mo d hh mi se un 45 o0 ∧ Below B w w') := by
        intro w0 what hwh a1 a2 a3
        refine (number_ok b s q what w0 a1 hq hz hwh).mono ?_
        rintro e w' ⟨r1, r2, r3⟩
        exact ⟨r1, r2, a2.grown r3 (by simpa using hfb), a3.grown r3 (Nat.le_trans hB2 (Nat.le_of_lt a1.lt)) (fun k hk => by obtain rfl := Option.some.inj hk; exact hB2)⟩
      obtain ⟨m, q3, ok3, hnk⟩ : ∃ v q' ok, numTo s q 2 = (v, q', ok) := ⟨_, _, _, rfl⟩
      rw [hnk] at HV2 hv2 hq2 key
      dsimp only at hv2 hq2
      clear hnk
      have hq3 := HH.out
      rw [HV2.out] at hq3
      simp only [Prod.mk.injEq] at hq3
      obtain ⟨rfl, rfl, rfl, rfl⟩ := hq3
      clear HH HV2 HN
      have k2 := hs2.c2
      have wsz : (ByteArray.size ⟨#[109, 105, 110, 117, 116, 101, 32, 111, 102, 32, 116, 104, 101, 32, 111, 102, 102, 115, 101, 116]⟩) ≤ 1000 := by decide
      cases due
      · have hdt : dig s q = true := by simpa using hdd
        go_wp2_with (first
          | (go_at_call 18; refine (digitNext_any b s q _ _ hs2).mono ?_; rw [hdt]; rintro e w3 ⟨rfl, n3, rfl⟩; have hs2' := hs2.drewN n3; have ht2' : Tf (w2.drewN n3) f y mo d hh mi se un 45 o0 := ht2; have hb2' : Below B w (w2.drewN n3) := below_drewN hb2 n3; clear hs2 ht2 hb2))
        refine (key.out _ _ wsz hs2' ht2' hb2').mono ?_
        rintro e w3 ⟨rfl, ⟨er3, he3, hs3⟩, ht3, hb3⟩
        clear key hs2' ht2' hb2' k2
        dsimp only at he3 hs3 ⊢
        cases ok3
        · obtain ⟨t, x, rfl⟩ : ∃ t x, er3 = .iface t x := by simpa [ErrIs] using he3
          have k2 := hs3.c2
          have k10 := ht3.c10
          have k10f := ht3.fz 10
          go_wp2
          go_end0
          try rw [Int.add_zero]
          exact ⟨rfl, ⟨.iface t x, errHeld _ _, (hs3.other hfb 10 (.int .i64 _)).other hfb 10 (.int .i64 _)⟩, (ht3.set10 _).set10 _, below_set (below_set hb3 hB1 10 (.int .i64 _)) hB1 10 (.int .i64 _)⟩
        · obtain rfl : er3 = .nilIface := by simpa [ErrIs] using he3
          by_cases g23 : 23 < h
          · have G23 : decide (23 < h) = true := by simp; omega
            have k2 := hs3.c2
            go_wp2_with (go_at_call 20; refine (errorf0_at h w3).mono ?_; rintro e w4 ⟨⟨a, rfl⟩, hg4⟩; have hs4 : Sc w4 b s q3 .nilIface := hs3.grown hg4 (by simp); have ht4 : Tf w4 f y mo d hh mi se un 45 o0 := ht3.grown hg4 (by simp); have hb4 : Below B w w4 := hb3.grown hg4 (Nat.le_trans hB2 (Nat.le_of_lt hs3.lt)) (by simp); have k2 := hs4.c2; have k2f := hs4.fz 2; have k10 := ht4.c10; have k10f := ht4.fz 10; clear hg4)
            go_end0
            have e23 : (true && decide (h ≤ 23) && decide (m ≤ 59)) = false := by simp; omega
            try rw [Int.add_zero]
            exact ⟨rfl, ⟨.iface 47 (.pointer (some a)), (by first | exact errHeld _ _ | (rw [e23]; exact errHeld _ _)), (hs4.set2.other hfb 10 (.int .i64 _)).other hfb 10 (.int .i64 _)⟩, ((ht4.other hfb 2 (.iface 47 (.pointer (some a)))).set10 _).set10 _, below_set (below_set (below_set hb4 hB2 2 (.iface 47 (.pointer (some a)))) hB1 10 (.int .i64 _)) hB1 10 (.int .i64 _)⟩
          · have G23 : decide (23 < h) = false := by simp; omega
            by_cases g59 : 59 < m
            · have G59 : decide (59 < m) = true := by simp; omega
              have k2 := hs3.c2
              go_wp2_with (go_at_call 20; refine (errorf1_at m w3).mono ?_; rintro e w4 ⟨⟨a, rfl⟩, hg4⟩; have hs4 : Sc w4 b s q3 .nilIface := hs3.grown hg4 (by simp); have ht4 : Tf w4 f y mo d hh mi se un 45 o0 := ht3.grown hg4 (by simp); have hb4 : Below B w w4 := hb3.grown hg4 (Nat.le_trans hB2 (Nat.le_of_lt hs3.lt)) (by simp); have k2 := hs4.c2; have k2f := hs4.fz 2; have k10 := ht4.c10; have k10f := ht4.fz 10; clear hg4)
              go_end0
              have e23 : (true && decide (h ≤ 23) && decide (m ≤ 59)) = false := by simp; omega
              try rw [Int.add_zero]
              exact ⟨rfl, ⟨.iface 47 (.pointer (some a)), (by first | exact errHeld _ _ | (rw [e23]; exact errHeld _ _)), (hs4.set2.other hfb 10 (.int .i64 _)).other hfb 10 (.int .i64 _)⟩, ((ht4.other hfb 2 (.iface 47 (.pointer (some a)))).set10 _).set10 _, below_set (below_set (below_set hb4 hB2 2 (.iface 47 (.pointer (some a)))) hB1 10 (.int .i64 _)) hB1 10 (.int .i64 _)⟩
            · have G59 : decide (59 < m) = false := by simp; omega
              have k2 := hs3.c2
              have k10 := ht3.c10
              have k10f := ht3.fz 10
              go_wp2
              go_end0
              have e23 : (true && decide (h ≤ 23) && decide (m ≤ 59)) = true := by simp; omega
              try rw [Int.add_zero]
              exact ⟨rfl, ⟨.nilIface, (by first | exact errNil | (rw [e23]; exact errNil)), (hs3.other hfb 10 (.int .i64 _)).other hfb 10 (.int .i64 _)⟩, (ht3.set10 _).set10 _, below_set (below_set hb3 hB1 10 (.int .i64 _)) hB1 10 (.int .i64 _)⟩
      · clear hdd
        go_wp2_with fail
        refine (key.out _ _ wsz hs2 ht2 hb2).mono ?_
        rintro e w3 ⟨rfl, ⟨er3, he3, hs3⟩, ht3, hb3⟩
        clear key hs2 ht2 hb2 k2
        dsimp only at he3 hs3 ⊢
        cases ok3
        · obtain ⟨t, x, rfl⟩ : ∃ t x, er3 = .iface t x := by simpa [ErrIs] using he3
          have k2 := hs3.c2
          have k10 := ht3.c10
          have k10f := ht3.fz 10
          go_wp2
          go_end0
          try rw [Int.add_zero]
          exact ⟨rfl, ⟨.iface t x, errHeld _ _, (hs3.other hfb 10 (.int .i64 _)).other hfb 10 (.int .i64 _)⟩, (ht3.set10 _).set10 _, below_set (below_set hb3 hB1 10 (.int .i64 _)) hB1 10 (.int .i64 _)⟩
        · obtain rfl : er3 = .nilIface := by simpa [ErrIs] using he3
          by_cases g23 : 23 < h
          · have G23 : decide (23 < h) = true := by simp; omega
            have k2 := hs3.c2
            go_wp2_with (go_at_call 20; refine (errorf0_at h w3).mono ?_; rintro e w4 ⟨⟨a, rfl⟩, hg4⟩; have hs4 : Sc w4 b s q3 .nilIface := hs3.grown hg4 (by simp); have ht4 : Tf w4 f y mo d hh mi se un 45 o0 := ht3.grown hg4 (by simp); have hb4 : Below B w w4 := hb3.grown hg4 (Nat.le_trans hB2 (Nat.le_of_lt hs3.lt)) (by simp); have k2 := hs4.c2; have k2f := hs4.fz 2; have k10 := ht4.c10; have k10f := ht4.fz 10; clear hg4)
            go_end0
            have e23 : (true && decide (h ≤ 23) && decide (m ≤ 59)) = false := by simp; omega
            try rw [Int.add_zero]
            exact ⟨rfl, ⟨.iface 47 (.pointer (some a)), (by first | exact errHeld _ _ | (rw [e23]; exact errHeld _ _)), (hs4.set2.other hfb 10 (.int .i64 _)).other hfb 10 (.int .i64 _)⟩, ((ht4.other hfb 2 (.iface 47 (.pointer (some a)))).set10 _).set10 _, below_set (below_set (below_set hb4 hB2 2 (.iface 47 (.pointer (some a)))) hB1 10 (.int .i64 _)) hB1 10 (.int .i64 _)⟩
          · have G23 : decide (23 < h) = false := by simp; omega
            by_cases g59 : 59 < m
            · have G59 : decide (59 < m) = true := by simp; omega
              have k2 := hs3.c2
              go_wp2_with (go_at_call 20; refine (errorf1_at m w3).mono ?_; rintro e w4 ⟨⟨a, rfl⟩, hg4⟩; have hs4 : Sc w4 b s q3 .nilIface := hs3.grown hg4 (by simp); have ht4 : Tf w4 f y mo d hh mi se un 45 o0 := ht3.grown hg4 (by simp); have hb4 : Below B w w4 := hb3.grown hg4 (Nat.le_trans hB2 (Nat.le_of_lt hs3.lt)) (by simp); have k2 := hs4.c2; have k2f := hs4.fz 2; have k10 := ht4.c10; have k10f := ht4.fz 10; clear hg4)
              go_end0
              have e23 : (true && decide (h ≤ 23) && decide (m ≤ 59)) = false := by simp; omega
              try rw [Int.add_zero]
              exact ⟨rfl, ⟨.iface 47 (.pointer (some a)), (by first | exact errHeld _ _ | (rw [e23]; exact errHeld _ _)), (hs4.set2.other hfb 10 (.int .i64 _)).other hfb 10 (.int .i64 _)⟩, ((ht4.other hfb 2 (.iface 47 (.pointer (some a)))).set10 _).set10 _, below_set (below_set (below_set hb4 hB2 2 (.iface 47 (.pointer (some a)))) hB1 10 (.int .i64 _)) hB1 10 (.int .i64 _)⟩
            · have G59 : decide (59 < m) = false := by simp; omega
              have k2 := hs3.c2
              have k10 := ht3.c10
              have k10f := ht3.fz 10
              go_wp2
              go_end0
              have e23 : (true && decide (h ≤ 23) && decide (m ≤ 59)) = true := by simp; omega
              try rw [Int.add_zero]
              exact ⟨rfl, ⟨.nilIface, (by first | exact errNil | (rw [e23]; exact errNil)), (hs3.other hfb 10 (.int .i64 _)).other hfb 10 (.int .i64 _)⟩, (ht3.set10 _).set10 _, below_set (below_set hb3 hB1 10 (.int .i64 _)) hB1 10 (.int .i64 _)⟩
    · have hdf : due = false ∧ dig s q = false := by simpa using hdd
      obtain ⟨rfl, hdt⟩ := hdf
      have hmn : mins s false q = (0, q, true) := by simp [mins, hdt]
      have hh2 : hm s false (p + 1) = (h, 0, q, true) := by simp [hm, HN.out, hmn]
      have hq3 := HH.out
      rw [hh2] at hq3
      simp only [Prod.mk.injEq] at hq3
      obtain ⟨rfl, rfl, rfl, rfl⟩ := hq3
      clear HH HN hh2 hmn hdd
      by_cases g23 : 23 < h
      · have G23 : decide (23 < h) = true := by simp; omega
        go_wp2_with (first
          | (go_at_call 18; refine (digitNext_any b s q _ _ hs2).mono ?_; rw [hdt]; rintro e w3 ⟨rfl, n3, rfl⟩; have hs3 := hs2.drewN n3; have ht3 : Tf (w2.drewN n3) f y mo d hh mi se un 45 o0 := ht2; have hb3 : Below B w (w2.drewN n3) := below_drewN hb2 n3; have k2 := hs3.c2; have k10 := ht3.c10; have k10f := ht3.fz 10; generalize w2.drewN n3 = w3 at *; clear hs2 ht2 hb2)
          | (go_at_call 20; refine (errorf0_at h w3).mono ?_; rintro e w4 ⟨⟨a, rfl⟩, hg4⟩; have hs4 : Sc w4 b s q .nilIface := hs3.grown hg4 (by simp); have ht4 : Tf w4 f y mo d hh mi se un 45 o0 := ht3.grown hg4 (by simp); have hb4 : Below B w w4 := hb3.grown hg4 (Nat.le_trans hB2 (Nat.le_of_lt hs3.lt)) (by simp); have k2 := hs4.c2; have k2f := hs4.fz 2; have k10 := ht4.c10; have k10f := ht4.fz 10; clear hg4))
        go_end0
        have e23 : (true && decide (h ≤ 23) && decide ((0 : Int) ≤ 59)) = false := by simp; omega
        try rw [Int.add_zero]
        exact ⟨rfl, ⟨.iface 47 (.pointer (some a)), (by first | exact errHeld _ _ | (rw [e23]; exact errHeld _ _)), (hs4.set2.other hfb 10 (.int .i64 _)).other hfb 10 (.int .i64 _)⟩, ((ht4.other hfb 2 (.iface 47 (.pointer (some a)))).set10 _).set10 _, below_set (below_set (below_set hb4 hB2 2 (.iface 47 (.pointer (some a)))) hB1 10 (.int .i64 _)) hB1 10 (.int .i64 _)⟩
      · have G23 : decide (23 < h) = false := by simp; omega
        go_wp2_with (first
          | (go_at_call 18; refine (digitNext_any b s q _ _ hs2).mono ?_; rw [hdt]; rintro e w3 ⟨rfl, n3, rfl⟩; have hs3 := hs2.drewN n3; have ht3 : Tf (w2.drewN n3) f y mo d hh mi se un 45 o0 := ht2; have hb3 : Below B w (w2.drewN n3) := below_drewN hb2 n3; have k2 := hs3.c2; have k10 := ht3.c10; have k10f := ht3.fz 10; generalize w2.drewN n3 = w3 at *; clear hs2 ht2 hb2))
        go_end0
        have e23 : (true && decide (h ≤ 23) && decide ((0 : Int) ≤ 59)) = true := by simp; omega
        try rw [Int.add_zero]
        exact ⟨rfl, ⟨.nilIface, (by first | exact errNil | (rw [e23]; exact errNil)), (hs3.other hfb 10 (.int .i64 _)).other hfb 10 (.int .i64 _)⟩, (ht3.set10 _).set10 _, below_set (below_set hb3 hB1 10 (.int .i64 _)) hB1 10 (.int .i64 _)⟩
end Go.Proofs.Qxb6616501aFmt
