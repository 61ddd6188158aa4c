import Derived.Test.Qxb6616501aFmtA2
namespace Go.Proofs.Qxb6616501aFmt
open Go.RowKit

set_option maxRecDepth 100000 in
set_option maxHeartbeats 400000 in
theorem number_held (b : Nat) (s : ByteArray) (p : Nat) (t : TypeId) (x : Value) (what : ByteArray) (w : World) (hs : Sc w b s p (.iface t x)) :
    Calls Tryf.prog 17 #[.pointer (some ⟨b, 0, none⟩), .int .i64 2, .string what] w fun e w' => e = .returned (.int .i64 0) ∧ w = w' := by
  have c2 := hs.c2
  go_enter Tryf.func17, Tryf.ntmps17
  go_wp2
  refine wp_loop_rounds 1 ?_
  rw [rounds_succ]
  go_wp2
  go_ret
  exact ⟨rfl, rfl⟩

theorem expected_any (b : Nat) (s : ByteArray) (p : Nat) (er : Value) (what : ByteArray) (w : World) (hs : Sc w b s p er) (h : p ≤ s.size) :
    Calls Tryf.prog 22 #[.pointer (some ⟨b, 0, none⟩), .string what] w fun e w' => (∃ a, e = .returned (.iface 47 (.pointer (some a)))) ∧ w.grownBy w' none := by
  by_cases hp : p < s.size
  · exact expected_at b s p er what w hs hp
  · exact expected_end b s p er what w hs (by omega)
theorem sc_next {w : World} {b : Nat} {s : ByteArray} {q : Nat} {e : Value} (h : Sc w b s q e) (n : Nat) : Sc ((w.drewN n).setCell ⟨b, 1, none⟩ (.int .i64 ((q : Int) + 1))) b s (q + 1) e := by
  have := (h.drewN n).set1 (q := q + 1)
  rwa [show (((q + 1 : Nat)) : Int) = (q : Int) + 1 by omega] at this
theorem int_eq {k : IntKind} {a b : Int} (h : a = b) : Value.int k a = .int k b := by rw [h]

set_option maxRecDepth 100000 in
set_option maxHeartbeats 1000000 in
theorem number_ok (b : Nat) (s : ByteArray) (p : Nat) (what : ByteArray) (w : World) (hs : Sc w b s p .nilIface) (hp : p ≤ s.size) (hz : s.size ≤ 1048576) (hwh : what.size ≤ 1000) :
    Calls Tryf.prog 17 #[.pointer (some ⟨b, 0, none⟩), .int .i64 2, .string what] w fun e w' => e = .returned (.int .i64 (numTo s p 2).1) ∧
      (∃ er, ErrIs (numTo s p 2).2.2 er ∧ Sc w' b s (numTo s p 2).2.1 er) ∧ w.grownBy w' (some b) := by
  go_enter Tryf.func17, Tryf.ntmps17
  go_wp2
  go_loopw [7, 8] (fun v i wr => ∃ k : Nat, k ≤ 2 ∧ i = .int .i64 k ∧ v = .int .i64 (numTo s p k).1 ∧ (∃ er, ErrIs (numTo s p k).2.2 er ∧ Sc wr b s (numTo s p k).2.1 er) ∧ w.grownBy wr (some b)) (fun _ i _ => 2 - (intOf i).toNat)
  case atStart => exact ⟨0, by omega, rfl, rfl, ⟨_, errNil, hs⟩, grown_refl _ _⟩
  case round =>
    obtain ⟨k, hk, rfl, rfl, ⟨er, her, hsr⟩, hg⟩ := hrel
    have hv := numTo_v s p k hk
    have hq := numTo_le s p hp k
    obtain ⟨v, q, ok, hnk⟩ : ∃ v q ok, numTo s p k = (v, q, ok) := ⟨_, _, _, rfl⟩
    rw [hnk] at her hsr hv hq
    rw [hnk]
    have HN : Hid (numTo s p k = (v, q, ok)) := hnk
    clear hnk
    dsimp only at her hsr hv hq
    have HG : Hid (w.grownBy wr (some b)) := hg
    clear hg
    by_cases h2 : k < 2
    · cases ok
      · obtain ⟨t, x, rfl⟩ : ∃ t x, er = .iface t x := by simpa [ErrIs] using her
        have c2 := hsr.c2
        go_wp2
        go_ret
        have e2 := numTo_two HN.out hk
        exact ⟨by rw [e2]; rfl, ⟨_, by rw [e2]; exact errHeld t x, by rw [e2]; exact hsr⟩, HG.out⟩
      · obtain rfl : er = .nilIface := by simpa [ErrIs] using her
        have c2 := hsr.c2
        have c0 := hsr.c0
        have c1 := hsr.c1
        cases hd : dig s q
        · have f2 := hsr.fz 2
          go_wp2_with (first
            | (go_at_call 18; refine (digitNext_any b s q _ _ hsr).mono ?_; rw [hd]; rintro e w1 ⟨rfl, n1, rfl⟩)
            | (go_at_call 22; refine (expected_any b s q _ _ _ (hsr.drewN n1) hq).mono ?_; rintro e w2 ⟨⟨a, rfl⟩, hg2⟩; have hs2 : Sc w2 b s q .nilIface := Sc.grown (hsr.drewN n1) hg2 (by simp); have HG2 : Hid (w.grownBy w2 (some b)) := grown_trans (grown_drewN HG.out _) (grown_none hg2 _); have k2 := hs2.c2; have g2 := hs2.fz 2; clear hg2))
          have hn1 := numTo_fail HN.out hd
          refine ⟨⟨k + 1, by omega, by go_num, ?_, ⟨.iface 47 (.pointer (some a)), ?_, ?_⟩, ?_⟩, by simp [intOf]; omega⟩
          · rw [hn1]
          · rw [hn1]; exact errHeld _ _
          · rw [hn1]; exact hs2.set2
          · exact grown_trans HG2.out (grown_set _ _ _ _)
        · have hdt := dig_true.1 hd
          obtain ⟨hlt, d1, d2⟩ := hdt
          rw [byt_in hlt] at d1 d2
          have hi : (q : Int) < (s.size : Int) := by omega
          have f1 := hsr.fz 1
          go_wp2_with (go_at_call 18; refine (digitNext_any b s q _ _ hsr).mono ?_; rw [hd]; rintro e w1 ⟨rfl, n1, rfl⟩)
          go_quiet (fail)
          go_wp2
          have hn1 := numTo_step HN.out hd
          have hdv : dv s q = (s[q].toNat : Int) - 48 := by rw [dv, byt_in hlt]
          refine ⟨⟨k + 1, by omega, by go_num, ?_, ⟨.nilIface, ?_, ?_⟩, ?_⟩, by simp [intOf]; omega⟩
          · rw [hn1, hdv]
          · rw [hn1]; exact errNil
          · rw [hn1]; exact sc_next hsr _
          · exact grown_trans (grown_drewN HG.out _) (grown_set _ _ _ _)
    · have h2' : decide ((k : Int) < 2) = false := by simp; omega
      obtain rfl : k = 2 := by omega
      go_wp2
      go_ret
      have e2 := HN.out
      exact ⟨by rw [e2]; rfl, ⟨_, by rw [e2]; exact her, by rw [e2]; exact hsr⟩, HG.out⟩
end Go.Proofs.Qxb6616501aFmt
