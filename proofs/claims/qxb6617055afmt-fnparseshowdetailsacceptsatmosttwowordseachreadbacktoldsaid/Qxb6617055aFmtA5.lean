import Derived.Test.Qxb6617055aFmtA4
namespace Go.Proofs.Qxb6617055aFmt
open Go.RowKit

set_option maxHeartbeats 400000 in
theorem bytes10_any (a b c : ByteArray) (w : World) (h : a.size + b.size + c.size ≤ 1048576) : Calls Tryf.prog 10 #[.string a, .string b, .string c] w fun e w' => e = .returned (.bool true) ∧ w = w' := by
  go_enter Tryf.func10, Tryf.ntmps10
  go_wp2
  go_ret
  exact ⟨rfl, rfl⟩

set_option maxHeartbeats 400000 in
theorem bytes10_no (a b c : ByteArray) (w : World) (ma : a.size ≤ maxLen) (mb : b.size ≤ maxLen) (mc : c.size ≤ maxLen) (h : 1048576 < a.size + b.size + c.size) : Calls Tryf.prog 10 #[.string a, .string b, .string c] w fun e w' => e = .returned (.bool false) ∧ w = w' := by
  unfold maxLen at ma mb mc
  by_cases h0 : 1048576 < a.size
  · go_enter Tryf.func10, Tryf.ntmps10
    go_wp2
    go_ret
    exact ⟨rfl, rfl⟩
  by_cases h1 : 1048576 < b.size
  · go_enter Tryf.func10, Tryf.ntmps10
    go_wp2
    go_ret
    exact ⟨rfl, rfl⟩
  by_cases h2 : 1048576 < a.size + b.size
  · go_enter Tryf.func10, Tryf.ntmps10
    go_wp2
    go_ret
    exact ⟨rfl, rfl⟩
  by_cases h3 : 1048576 < c.size
  · go_enter Tryf.func10, Tryf.ntmps10
    go_wp2
    go_ret
    exact ⟨rfl, rfl⟩
  go_enter Tryf.func10, Tryf.ntmps10
  go_wp2
  go_ret
  exact ⟨rfl, rfl⟩

set_option maxRecDepth 100000 in
set_option maxHeartbeats 1000000 in
theorem two_long (a b c : ByteArray) (w : World) (ma : a.size ≤ maxLen) (mb : b.size ≤ maxLen) (mc : c.size ≤ maxLen) (h : 1048576 < a.size + b.size + c.size) :
    Calls Tryf.prog 4 #[.string a, .string b, .string c] w fun e w' => e = .returned (.bool true) ∧ Below w.heap.size w w' := by
  go_enter Tryf.func4, Tryf.ntmps4
  go_wp2_with (go_at_call 10; refine (bytes10_no _ _ _ _ ma mb mc h).mono ?_; rintro e w' ⟨rfl, rfl⟩)
  go_ret
  exact ⟨rfl, Below.refl _ _⟩

set_option maxRecDepth 100000 in
set_option maxHeartbeats 1000000 in
theorem two_wide (a b c : ByteArray) (w : World) (h : a.size + b.size + c.size ≤ 1048576) (ho : 262144 < a.size ∨ 262144 < b.size ∨ 262144 < c.size) :
    Calls Tryf.prog 4 #[.string a, .string b, .string c] w fun e w' => e = .returned (.bool true) ∧ Below w.heap.size w w' := by
  by_cases h0 : 262144 < a.size
  · have d0 : decide ((262144 : Int) < a.size) = true := by simp; omega
    go_enter Tryf.func4, Tryf.ntmps4
    go_wp2_with (go_at_call 10; refine (bytes10_any _ _ _ _ h).mono ?_; rintro e w' ⟨rfl, rfl⟩)
    go_ret
    exact ⟨rfl, Below.refl _ _⟩
  have d0 : decide ((262144 : Int) < a.size) = false := by simp; omega
  by_cases h1 : 262144 < b.size
  · have d1 : decide ((262144 : Int) < b.size) = true := by simp; omega
    go_enter Tryf.func4, Tryf.ntmps4
    go_wp2_with (go_at_call 10; refine (bytes10_any _ _ _ _ h).mono ?_; rintro e w' ⟨rfl, rfl⟩)
    go_ret
    exact ⟨rfl, Below.refl _ _⟩
  have d1 : decide ((262144 : Int) < b.size) = false := by simp; omega
  have d2 : decide ((262144 : Int) < c.size) = true := by simp; omega
  clear ho
  go_enter Tryf.func4, Tryf.ntmps4
  go_wp2_with (go_at_call 10; refine (bytes10_any _ _ _ _ h).mono ?_; rintro e w' ⟨rfl, rfl⟩)
  go_ret
  exact ⟨rfl, Below.refl _ _⟩

theorem list_eq {a b : ByteArray} (h : a = b) : (a.toList == b.toList) = true := by rw [h]; simp
theorem list_ne {a b : ByteArray} (h : a ≠ b) : (a.toList == b.toList) = false := by
  rw [ByteArray.toList_eq, ByteArray.toList_eq]
  cases hb : a.data.toList == b.data.toList
  · rfl
  · exfalso
    have e : a.data.toList = b.data.toList := by simpa using hb
    exact h ((of_list e).trans (by simp))

set_option maxRecDepth 100000 in
set_option maxHeartbeats 4000000 in
theorem two_main (a b c : ByteArray) (w : World) (h : a.size + b.size + c.size ≤ 1048576) (ha : a.size ≤ 262144) (hb : b.size ≤ 262144) (hc : c.size ≤ 262144) :
    Calls Tryf.prog 4 #[.string a, .string b, .string c] w fun e w' => e = .returned (.bool true) ∧ Below w.heap.size w w' := by
  have d0 : decide ((262144 : Int) < a.size) = false := by simp; omega
  have d1 : decide ((262144 : Int) < b.size) = false := by simp; omega
  have d2 : decide ((262144 : Int) < c.size) = false := by simp; omega
  have ra := readsBack_any a
  have rb := readsBack_any b
  have rc := readsBack_any c
  have pa := outer_any a
  have pb := outer_any b
  have pc := outer_any c
  have key : acc a = true → acc b = true → acc c = true → a = b ∨ b = c ∨ a = c := by
    simp only [acc, decide_eq_true_eq]
    intro h1 h2 h3
    rcases h1 with rfl | rfl <;> rcases h2 with rfl | rfl <;> rcases h3 with rfl | rfl <;> simp
  generalize acc a = ka at *
  generalize acc b = kb at *
  generalize acc c = kc at *
  generalize ans a = xa at *
  generalize ans b = xb at *
  generalize ans c = xc at *
  have RA : Hid (∀ w, Calls Tryf.prog 11 #[.string a, .string xa, .bool (!ka)] w fun e w' => e = .returned (.bool true) ∧ w.grownBy w' none) := ra
  have RB : Hid (∀ w, Calls Tryf.prog 11 #[.string b, .string xb, .bool (!kb)] w fun e w' => e = .returned (.bool true) ∧ w.grownBy w' none) := rb
  have RC : Hid (∀ w, Calls Tryf.prog 11 #[.string c, .string xc, .bool (!kc)] w fun e w' => e = .returned (.bool true) ∧ w.grownBy w' none) := rc
  have PA : Hid (∀ w, Calls Tryf.prog 7 #[.string a] w fun e w' => (∃ er, e = .returned (.tuple #[.string xa, er]) ∧ ErrIs ka er) ∧ w.grownBy w' none) := pa
  have PB : Hid (∀ w, Calls Tryf.prog 7 #[.string b] w fun e w' => (∃ er, e = .returned (.tuple #[.string xb, er]) ∧ ErrIs kb er) ∧ w.grownBy w' none) := pb
  have PC : Hid (∀ w, Calls Tryf.prog 7 #[.string c] w fun e w' => (∃ er, e = .returned (.tuple #[.string xc, er]) ∧ ErrIs kc er) ∧ w.grownBy w' none) := pc
  have KEY : Hid (ka = true → kb = true → kc = true → a = b ∨ b = c ∨ a = c) := key
  clear ra rb rc pa pb pc key
  go_enter Tryf.func4, Tryf.ntmps4
  go_wp2_with (go_at_call 10; refine (bytes10_any _ _ _ _ h).mono ?_; rintro e w' ⟨rfl, rfl⟩)
  refine (PA.out _).mono ?_
  rintro e w1 ⟨⟨ea, rfl, hea⟩, g1⟩
  go_wp2_with fail
  refine (PB.out _).mono ?_
  rintro e w2 ⟨⟨eb, rfl, heb⟩, g2⟩
  go_wp2_with fail
  refine (PC.out _).mono ?_
  rintro e w3 ⟨⟨ec, rfl, hec⟩, g3⟩
  have G3 : Hid (w.grownBy w3 none) := grown_trans (grown_trans g1 g2) g3
  clear g1 g2 g3 PA PB PC
  cases ka
  · cases kb
    · cases kc
      · obtain ⟨ta, xa, rfl⟩ : ∃ t x, ea = .iface t x := by simpa [ErrIs] using hea
        obtain ⟨tb, xb, rfl⟩ : ∃ t x, eb = .iface t x := by simpa [ErrIs] using heb
        obtain ⟨tc, xc, rfl⟩ : ∃ t x, ec = .iface t x := by simpa [ErrIs] using hec
        clear hea heb hec
        clear KEY
        go_wp2_with fail
        refine (RA.out _).mono ?_
        rintro e w4 ⟨rfl, g4⟩
        go_wp2_with fail
        refine (RB.out _).mono ?_
        rintro e w5 ⟨rfl, g5⟩
        go_wp2_with fail
        refine (RC.out _).mono ?_
        rintro e w6 ⟨rfl, g6⟩
        have G6 : Hid (w.grownBy w6 none) := grown_trans (grown_trans (grown_trans G3.out g4) g5) g6
        clear g4 g5 g6 RA RB RC
        go_wp2
        go_ret
        exact ⟨rfl, grown_below G6.out⟩
      · obtain ⟨ta, xa, rfl⟩ : ∃ t x, ea = .iface t x := by simpa [ErrIs] using hea
        obtain ⟨tb, xb, rfl⟩ : ∃ t x, eb = .iface t x := by simpa [ErrIs] using heb
        obtain rfl : ec = .nilIface := by simpa [ErrIs] using hec
        clear hea heb hec
        clear KEY
        go_wp2_with fail
        refine (RA.out _).mono ?_
        rintro e w4 ⟨rfl, g4⟩
        go_wp2_with fail
        refine (RB.out _).mono ?_
        rintro e w5 ⟨rfl, g5⟩
        go_wp2_with fail
        refine (RC.out _).mono ?_
        rintro e w6 ⟨rfl, g6⟩
        have G6 : Hid (w.grownBy w6 none) := grown_trans (grown_trans (grown_trans G3.out g4) g5) g6
        clear g4 g5 g6 RA RB RC
        go_wp2
        go_ret
        exact ⟨rfl, grown_below G6.out⟩
    · cases kc
      · obtain ⟨ta, xa, rfl⟩ : ∃ t x, ea = .iface t x := by simpa [ErrIs] using hea
        obtain rfl : eb = .nilIface := by simpa [ErrIs] using heb
        obtain ⟨tc, xc, rfl⟩ : ∃ t x, ec = .iface t x := by simpa [ErrIs] using hec
        clear hea heb hec
        clear KEY
        go_wp2_with fail
        refine (RA.out _).mono ?_
        rintro e w4 ⟨rfl, g4⟩
        go_wp2_with fail
        refine (RB.out _).mono ?_
        rintro e w5 ⟨rfl, g5⟩
        go_wp2_with fail
        refine (RC.out _).mono ?_
        rintro e w6 ⟨rfl, g6⟩
        have G6 : Hid (w.grownBy w6 none) := grown_trans (grown_trans (grown_trans G3.out g4) g5) g6
        clear g4 g5 g6 RA RB RC
        go_wp2
        go_ret
        exact ⟨rfl, grown_below G6.out⟩
      · obtain ⟨ta, xa, rfl⟩ : ∃ t x, ea = .iface t x := by simpa [ErrIs] using hea
        obtain rfl : eb = .nilIface := by simpa [ErrIs] using heb
        obtain rfl : ec = .nilIface := by simpa [ErrIs] using hec
        clear hea heb hec
        clear KEY
        go_wp2_with fail
        refine (RA.out _).mono ?_
        rintro e w4 ⟨rfl, g4⟩
        go_wp2_with fail
        refine (RB.out _).mono ?_
        rintro e w5 ⟨rfl, g5⟩
        go_wp2_with fail
        refine (RC.out _).mono ?_
        rintro e w6 ⟨rfl, g6⟩
        have G6 : Hid (w.grownBy w6 none) := grown_trans (grown_trans (grown_trans G3.out g4) g5) g6
        clear g4 g5 g6 RA RB RC
        go_wp2
        go_ret
        exact ⟨rfl, grown_below G6.out⟩
  · cases kb
    · cases kc
      · obtain rfl : ea = .nilIface := by simpa [ErrIs] using hea
        obtain ⟨tb, xb, rfl⟩ : ∃ t x, eb = .iface t x := by simpa [ErrIs] using heb
        obtain ⟨tc, xc, rfl⟩ : ∃ t x, ec = .iface t x := by simpa [ErrIs] using hec
        clear hea heb hec
        clear KEY
        go_wp2_with fail
        refine (RA.out _).mono ?_
        rintro e w4 ⟨rfl, g4⟩
        go_wp2_with fail
        refine (RB.out _).mono ?_
        rintro e w5 ⟨rfl, g5⟩
        go_wp2_with fail
        refine (RC.out _).mono ?_
        rintro e w6 ⟨rfl, g6⟩
        have G6 : Hid (w.grownBy w6 none) := grown_trans (grown_trans (grown_trans G3.out g4) g5) g6
        clear g4 g5 g6 RA RB RC
        go_wp2
        go_ret
        exact ⟨rfl, grown_below G6.out⟩
      · obtain rfl : ea = .nilIface := by simpa [ErrIs] using hea
        obtain ⟨tb, xb, rfl⟩ : ∃ t x, eb = .iface t x := by simpa [ErrIs] using heb
        obtain rfl : ec = .nilIface := by simpa [ErrIs] using hec
        clear hea heb hec
        clear KEY
        go_wp2_with fail
        refine (RA.out _).mono ?_
        rintro e w4 ⟨rfl, g4⟩
        go_wp2_with fail
        refine (RB.out _).mono ?_
        rintro e w5 ⟨rfl, g5⟩
        go_wp2_with fail
        refine (RC.out _).mono ?_
        rintro e w6 ⟨rfl, g6⟩
        have G6 : Hid (w.grownBy w6 none) := grown_trans (grown_trans (grown_trans G3.out g4) g5) g6
        clear g4 g5 g6 RA RB RC
        go_wp2
        go_ret
        exact ⟨rfl, grown_below G6.out⟩
    · cases kc
      · obtain rfl : ea = .nilIface := by simpa [ErrIs] using hea
        obtain rfl : eb = .nilIface := by simpa [ErrIs] using heb
        obtain ⟨tc, xc, rfl⟩ : ∃ t x, ec = .iface t x := by simpa [ErrIs] using hec
        clear hea heb hec
        clear KEY
        go_wp2_with fail
        refine (RA.out _).mono ?_
        rintro e w4 ⟨rfl, g4⟩
        go_wp2_with fail
        refine (RB.out _).mono ?_
        rintro e w5 ⟨rfl, g5⟩
        go_wp2_with fail
        refine (RC.out _).mono ?_
        rintro e w6 ⟨rfl, g6⟩
        have G6 : Hid (w.grownBy w6 none) := grown_trans (grown_trans (grown_trans G3.out g4) g5) g6
        clear g4 g5 g6 RA RB RC
        go_wp2
        go_ret
        exact ⟨rfl, grown_below G6.out⟩
      · obtain rfl : ea = .nilIface := by simpa [ErrIs] using hea
        obtain rfl : eb = .nilIface := by simpa [ErrIs] using heb
        obtain rfl : ec = .nilIface := by simpa [ErrIs] using hec
        clear hea heb hec
        have hkey := KEY.out rfl rfl rfl
        clear KEY
        by_cases hab : a = b
        · have q0 := list_eq hab
          have HAB : Hid (a = b) := hab
          clear hab hkey
          go_wp2_with fail
          refine (RA.out _).mono ?_
          rintro e w4 ⟨rfl, g4⟩
          go_wp2_with fail
          refine (RB.out _).mono ?_
          rintro e w5 ⟨rfl, g5⟩
          go_wp2_with fail
          refine (RC.out _).mono ?_
          rintro e w6 ⟨rfl, g6⟩
          have G6 : Hid (w.grownBy w6 none) := grown_trans (grown_trans (grown_trans G3.out g4) g5) g6
          clear g4 g5 g6 RA RB RC
          go_wp2
          go_ret
          exact ⟨rfl, grown_below G6.out⟩
        have q0 := list_ne hab
        by_cases hbc : b = c
        · have q1 := list_eq hbc
          have HBC : Hid (b = c) := hbc
          clear hab hbc hkey
          go_wp2_with fail
          refine (RA.out _).mono ?_
          rintro e w4 ⟨rfl, g4⟩
          go_wp2_with fail
          refine (RB.out _).mono ?_
          rintro e w5 ⟨rfl, g5⟩
          go_wp2_with fail
          refine (RC.out _).mono ?_
          rintro e w6 ⟨rfl, g6⟩
          have G6 : Hid (w.grownBy w6 none) := grown_trans (grown_trans (grown_trans G3.out g4) g5) g6
          clear g4 g5 g6 RA RB RC
          go_wp2
          go_ret
          exact ⟨rfl, grown_below G6.out⟩
        have q1 := list_ne hbc
        have hac : a = c := by rcases hkey with h | h | h; exact absurd h hab; exact absurd h hbc; exact h
        have q2 := list_eq hac
        clear hab hbc hac hkey
        go_wp2_with fail
        refine (RA.out _).mono ?_
        rintro e w4 ⟨rfl, g4⟩
        go_wp2_with fail
        refine (RB.out _).mono ?_
        rintro e w5 ⟨rfl, g5⟩
        go_wp2_with fail
        refine (RC.out _).mono ?_
        rintro e w6 ⟨rfl, g6⟩
        have G6 : Hid (w.grownBy w6 none) := grown_trans (grown_trans (grown_trans G3.out g4) g5) g6
        clear g4 g5 g6 RA RB RC
        go_wp2
        go_ret
        exact ⟨rfl, grown_below G6.out⟩

theorem two_any (a b c : ByteArray) (w : World) (ma : a.size ≤ maxLen) (mb : b.size ≤ maxLen) (mc : c.size ≤ maxLen) :
    Calls Tryf.prog 4 #[.string a, .string b, .string c] w fun e w' => e = .returned (.bool true) ∧ Below w.heap.size w w' := by
  by_cases h : a.size + b.size + c.size ≤ 1048576
  · by_cases ho : 262144 < a.size ∨ 262144 < b.size ∨ 262144 < c.size
    · exact two_wide a b c w h ho
    · exact two_main a b c w h (by omega) (by omega) (by omega)
  · exact two_long a b c w ma mb mc (by omega)
end Go.Proofs.Qxb6617055aFmt
