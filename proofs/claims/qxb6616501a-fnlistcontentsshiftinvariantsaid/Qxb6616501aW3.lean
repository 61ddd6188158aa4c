import Derived.Test.Qxb6616501aW2
namespace Go.Proofs.Qxb6616501a
open Go.RowKit

set_option maxRecDepth 100000 in
set_option maxHeartbeats 1000000 in
theorem law_none (x : Addr) (len0 cap0 : Nat) (D : List Int) (a1 : Option Addr) (len1 cap1 : Nat) (Pf : List Int) (a2 : Option Addr) (len2 cap2 : Nat) (Sf : List Int) (ind : Bool) (off hl cl : Nat) (w : World)
    (s0 : Src w (some x) len0 cap0 D) (s1 : Src w a1 len1 cap1 Pf) (s2 : Src w a2 len2 cap2 Sf) (hsum : len0 + len1 + len2 ≤ 1048576) (hno : ind = true ∨ (hl : Int) = 0)
    (q1 : off ≤ len0) (q2 : hl ≤ len0) (q3 : cl ≤ len0) (q4 : 0 < hl → off + hl + cl ≤ len0) :
    Calls Try.prog 3 #[.slice (some x) len0 cap0, .slice a1 len1 cap1, .slice a2 len2 cap2, .bool ind, .int .i64 off, .int .i64 hl, .int .i64 cl] w fun e w' => e = .returned (.bool true) ∧ Below w.heap.size w w' := by
  obtain ⟨i0, hi, hz0, hz1, hz2⟩ := info_parts Try.info5
  have hen := eql_nil
  have hq : (0 < hl ∧ decide ((0 : Int) < hl) = true ∧ ((hl : Int) == 0) = false ∧ decide ((len0 : Int) < off + hl + cl) = false ∧ ind = true) ∨ (decide ((0 : Int) < hl) = false ∧ hl = 0) := by
    by_cases h : 0 < hl
    · have := q4 h
      exact .inl ⟨h, by simp; omega, by simp; omega, by simp; omega, by rcases hno with h1 | h1; exact h1; omega⟩
    · exact .inr ⟨by simp; omega, by omega⟩
  clear q4 hno
  have g2 : (decide ((1048576 : Int) < len0)) = false := by simp; omega
  have g3 : (decide ((1048576 : Int) < len1)) = false := by simp; omega
  have g4 : (decide ((1048576 : Int) < len2)) = false := by simp; omega
  have g5 : (decide ((off : Int) < 0)) = false := by simp
  have g6 : (decide ((hl : Int) < 0)) = false := by simp
  have g7 : (decide ((cl : Int) < 0)) = false := by simp
  have g8 : (decide ((len0 : Int) < off)) = false := by simp; omega
  have g9 : (decide ((len0 : Int) < hl)) = false := by simp; omega
  have g10 : (decide ((len0 : Int) < cl)) = false := by simp; omega
  rcases hq with ⟨g0, g1, g11, g12, g13⟩ | ⟨g0, g1⟩
  · subst g13
    go_enter Try.func3, Try.ntmps3
    go_wp2_with (first
      | (go_at_call 4; refine (bytes_any _ _ _ _ _ _ _ _ _ _ _ _ _ _ (by omega) (by omega) (by omega) (by omega)).mono ?_; rintro e w' ⟨rfl, rfl⟩)
      | (at_make; refine wpList_make_full _ rfl (.tmp 83) (.tmp 83) 22 rfl w.heap.size 5 i0 (.int .u8 0) 1 Try.underlying22 hi hz0 hz1 .i64 .i64 _ _ len0 rfl rfl rfl rfl (by rw [hz2]; omega) (by unfold maxLen; omega) (Nat.le_refl _) ?_; intro w1 hown1 hgrow1; obtain ⟨cur, hcur, hcl, hct⟩ := own_cur hown1; have hb1 := (Below.refl w.heap.size w).grown hgrow1 (Nat.le_refl _) (by simp); obtain ⟨w2, hrun, HR, hb2⟩ := copy_run (s0.below hb1) cur hcur hcl hb1; clear hown1 hgrow1 hcur hcl hct)
      | (at_make; refine wpList_make_own _ rfl _ (.tmp 96) 22 rfl w2.heap.size 5 i0 (.int .u8 0) 1 Try.underlying22 hi hz0 hz1 .i64 .i64 _ (len1 + len0 + len2) rfl rfl (by omega) (by rw [hz2]; omega) (by unfold maxLen; omega) (Nat.le_refl _) ?_; intro w3 hown3 hgrow3; have R3 : Row w3 w.heap.size D := (show Row w2 w.heap.size D from HR.out).grown0 hgrow3; have hb3 := hb2.grown hgrow3 hb2.size (by simp); have hlt : w.heap.size < w2.heap.size := (Array.getElem?_eq_some_iff.1 HR.out).1; clear hrun)
      | (at_builtin; refine wpList_append_fits_any _ rfl (.tmp 98) (.tmp 99) 22 rfl w2.heap.size 5 i0 1 Try.underlying22 hi hz1 w2.heap.size 0 (len1 + len0 + len2) [] rfl hown3 a1 len1 cap1 (Pf.map (Value.int .u8)) rfl (by simp [s1.1]) s1.2.1 (s1.below hb3).2.2 (ints_oneCell _ _) (by omega) ?_; intro w4 hown4 hgrow4; simp only [Nat.zero_add, List.nil_append] at hown4; have R4 : Row w4 w.heap.size D := R3.grown hgrow4 (by omega); have hb4 := hb3.grown hgrow4 hb3.size (fun k hk => by obtain rfl := Option.some.inj hk; exact hb2.size); clear hown3)
      | (at_builtin; refine wpList_append_fits_any _ rfl (.tmp 101) (.tmp 102) 22 rfl w2.heap.size 5 i0 1 Try.underlying22 hi hz1 w2.heap.size len1 (len1 + len0 + len2) _ rfl hown4 (some ⟨w.heap.size, 0, none⟩) len0 len0 (D.map (Value.int .u8)) rfl (by simp [s0.1]) (by simp) (R4.src len0 len0 s0.1).2.2 (ints_oneCell _ _) (by omega) ?_; intro w5 hown5 hgrow5; have R5 : Row w5 w.heap.size D := R4.grown hgrow5 (by omega); have hb5 := hb4.grown hgrow5 hb4.size (fun k hk => by obtain rfl := Option.some.inj hk; exact hb2.size); clear hown4)
      | (at_builtin; refine wpList_append_fits_any _ rfl (.tmp 104) (.tmp 105) 22 rfl w2.heap.size 5 i0 1 Try.underlying22 hi hz1 w2.heap.size (len1 + len0) (len1 + len0 + len2) _ rfl hown5 a2 len2 cap2 (Sf.map (Value.int .u8)) rfl (by simp [s2.1]) s2.2.1 (s2.below hb5).2.2 (ints_oneCell _ _) (by omega) ?_; intro w6 hown6 hgrow6; have R6 : Row w6 w.heap.size D := R5.grown hgrow6 (by omega); have hb6 := hb5.grown hgrow6 hb5.size (fun k hk => by obtain rfl := Option.some.inj hk; exact hb2.size); clear hown5 R3 R4 R5 hb3 hb4 hb5 hgrow3 hgrow4 hgrow5 hgrow6))
    refine (list_nil _ _ _ _ _ _ _ _ (by simp)).mono ?_
    rintro e w7 ⟨rfl, hb7⟩
    go_wp2_with fail
    refine (list_nil _ _ _ _ _ _ _ _ (by simp)).mono ?_
    rintro e w8 ⟨rfl, hb8⟩
    have hb8' : Below w.heap.size w w8 := (hb6.trans (hb7.mono hb6.size)).trans (hb8.mono (Nat.le_trans hb6.size hb7.size))
    clear hb6 hb7 hb8
    go_wp2
    go_ret
    exact ⟨rfl, hb8'⟩
  · subst g1
    cases ind
    · go_enter Try.func3, Try.ntmps3
      go_wp2_with (first
        | (go_at_call 4; refine (bytes_any _ _ _ _ _ _ _ _ _ _ _ _ _ _ (by omega) (by omega) (by omega) (by omega)).mono ?_; rintro e w' ⟨rfl, rfl⟩)
        | (at_make; refine wpList_make_full _ rfl (.tmp 83) (.tmp 83) 22 rfl w.heap.size 5 i0 (.int .u8 0) 1 Try.underlying22 hi hz0 hz1 .i64 .i64 _ _ len0 rfl rfl rfl rfl (by rw [hz2]; omega) (by unfold maxLen; omega) (Nat.le_refl _) ?_; intro w1 hown1 hgrow1; obtain ⟨cur, hcur, hcl, hct⟩ := own_cur hown1; have hb1 := (Below.refl w.heap.size w).grown hgrow1 (Nat.le_refl _) (by simp); obtain ⟨w2, hrun, HR, hb2⟩ := copy_run (s0.below hb1) cur hcur hcl hb1; clear hown1 hgrow1 hcur hcl hct)
        | (at_make; refine wpList_make_own _ rfl _ (.tmp 96) 22 rfl w2.heap.size 5 i0 (.int .u8 0) 1 Try.underlying22 hi hz0 hz1 .i64 .i64 _ (len1 + len0 + len2) rfl rfl (by omega) (by rw [hz2]; omega) (by unfold maxLen; omega) (Nat.le_refl _) ?_; intro w3 hown3 hgrow3; have R3 : Row w3 w.heap.size D := (show Row w2 w.heap.size D from HR.out).grown0 hgrow3; have hb3 := hb2.grown hgrow3 hb2.size (by simp); have hlt : w.heap.size < w2.heap.size := (Array.getElem?_eq_some_iff.1 HR.out).1; clear hrun)
        | (at_builtin; refine wpList_append_fits_any _ rfl (.tmp 98) (.tmp 99) 22 rfl w2.heap.size 5 i0 1 Try.underlying22 hi hz1 w2.heap.size 0 (len1 + len0 + len2) [] rfl hown3 a1 len1 cap1 (Pf.map (Value.int .u8)) rfl (by simp [s1.1]) s1.2.1 (s1.below hb3).2.2 (ints_oneCell _ _) (by omega) ?_; intro w4 hown4 hgrow4; simp only [Nat.zero_add, List.nil_append] at hown4; have R4 : Row w4 w.heap.size D := R3.grown hgrow4 (by omega); have hb4 := hb3.grown hgrow4 hb3.size (fun k hk => by obtain rfl := Option.some.inj hk; exact hb2.size); clear hown3)
        | (at_builtin; refine wpList_append_fits_any _ rfl (.tmp 101) (.tmp 102) 22 rfl w2.heap.size 5 i0 1 Try.underlying22 hi hz1 w2.heap.size len1 (len1 + len0 + len2) _ rfl hown4 (some ⟨w.heap.size, 0, none⟩) len0 len0 (D.map (Value.int .u8)) rfl (by simp [s0.1]) (by simp) (R4.src len0 len0 s0.1).2.2 (ints_oneCell _ _) (by omega) ?_; intro w5 hown5 hgrow5; have R5 : Row w5 w.heap.size D := R4.grown hgrow5 (by omega); have hb5 := hb4.grown hgrow5 hb4.size (fun k hk => by obtain rfl := Option.some.inj hk; exact hb2.size); clear hown4)
        | (at_builtin; refine wpList_append_fits_any _ rfl (.tmp 104) (.tmp 105) 22 rfl w2.heap.size 5 i0 1 Try.underlying22 hi hz1 w2.heap.size (len1 + len0) (len1 + len0 + len2) _ rfl hown5 a2 len2 cap2 (Sf.map (Value.int .u8)) rfl (by simp [s2.1]) s2.2.1 (s2.below hb5).2.2 (ints_oneCell _ _) (by omega) ?_; intro w6 hown6 hgrow6; have R6 : Row w6 w.heap.size D := R5.grown hgrow6 (by omega); have hb6 := hb5.grown hgrow6 hb5.size (fun k hk => by obtain rfl := Option.some.inj hk; exact hb2.size); clear hown5 R3 R4 R5 hb3 hb4 hb5 hgrow3 hgrow4 hgrow5 hgrow6))
      refine (list_nil _ _ _ _ _ _ _ _ (by simp)).mono ?_
      rintro e w7 ⟨rfl, hb7⟩
      go_wp2_with fail
      refine (list_nil _ _ _ _ _ _ _ _ (by simp)).mono ?_
      rintro e w8 ⟨rfl, hb8⟩
      have hb8' : Below w.heap.size w w8 := (hb6.trans (hb7.mono hb6.size)).trans (hb8.mono (Nat.le_trans hb6.size hb7.size))
      clear hb6 hb7 hb8
      go_wp2
      go_ret
      exact ⟨rfl, hb8'⟩
    · go_enter Try.func3, Try.ntmps3
      go_wp2_with (first
        | (go_at_call 4; refine (bytes_any _ _ _ _ _ _ _ _ _ _ _ _ _ _ (by omega) (by omega) (by omega) (by omega)).mono ?_; rintro e w' ⟨rfl, rfl⟩)
        | (at_make; refine wpList_make_full _ rfl (.tmp 83) (.tmp 83) 22 rfl w.heap.size 5 i0 (.int .u8 0) 1 Try.underlying22 hi hz0 hz1 .i64 .i64 _ _ len0 rfl rfl rfl rfl (by rw [hz2]; omega) (by unfold maxLen; omega) (Nat.le_refl _) ?_; intro w1 hown1 hgrow1; obtain ⟨cur, hcur, hcl, hct⟩ := own_cur hown1; have hb1 := (Below.refl w.heap.size w).grown hgrow1 (Nat.le_refl _) (by simp); obtain ⟨w2, hrun, HR, hb2⟩ := copy_run (s0.below hb1) cur hcur hcl hb1; clear hown1 hgrow1 hcur hcl hct)
        | (at_make; refine wpList_make_own _ rfl _ (.tmp 96) 22 rfl w2.heap.size 5 i0 (.int .u8 0) 1 Try.underlying22 hi hz0 hz1 .i64 .i64 _ (len1 + len0 + len2) rfl rfl (by omega) (by rw [hz2]; omega) (by unfold maxLen; omega) (Nat.le_refl _) ?_; intro w3 hown3 hgrow3; have R3 : Row w3 w.heap.size D := (show Row w2 w.heap.size D from HR.out).grown0 hgrow3; have hb3 := hb2.grown hgrow3 hb2.size (by simp); have hlt : w.heap.size < w2.heap.size := (Array.getElem?_eq_some_iff.1 HR.out).1; clear hrun)
        | (at_builtin; refine wpList_append_fits_any _ rfl (.tmp 98) (.tmp 99) 22 rfl w2.heap.size 5 i0 1 Try.underlying22 hi hz1 w2.heap.size 0 (len1 + len0 + len2) [] rfl hown3 a1 len1 cap1 (Pf.map (Value.int .u8)) rfl (by simp [s1.1]) s1.2.1 (s1.below hb3).2.2 (ints_oneCell _ _) (by omega) ?_; intro w4 hown4 hgrow4; simp only [Nat.zero_add, List.nil_append] at hown4; have R4 : Row w4 w.heap.size D := R3.grown hgrow4 (by omega); have hb4 := hb3.grown hgrow4 hb3.size (fun k hk => by obtain rfl := Option.some.inj hk; exact hb2.size); clear hown3)
        | (at_builtin; refine wpList_append_fits_any _ rfl (.tmp 101) (.tmp 102) 22 rfl w2.heap.size 5 i0 1 Try.underlying22 hi hz1 w2.heap.size len1 (len1 + len0 + len2) _ rfl hown4 (some ⟨w.heap.size, 0, none⟩) len0 len0 (D.map (Value.int .u8)) rfl (by simp [s0.1]) (by simp) (R4.src len0 len0 s0.1).2.2 (ints_oneCell _ _) (by omega) ?_; intro w5 hown5 hgrow5; have R5 : Row w5 w.heap.size D := R4.grown hgrow5 (by omega); have hb5 := hb4.grown hgrow5 hb4.size (fun k hk => by obtain rfl := Option.some.inj hk; exact hb2.size); clear hown4)
        | (at_builtin; refine wpList_append_fits_any _ rfl (.tmp 104) (.tmp 105) 22 rfl w2.heap.size 5 i0 1 Try.underlying22 hi hz1 w2.heap.size (len1 + len0) (len1 + len0 + len2) _ rfl hown5 a2 len2 cap2 (Sf.map (Value.int .u8)) rfl (by simp [s2.1]) s2.2.1 (s2.below hb5).2.2 (ints_oneCell _ _) (by omega) ?_; intro w6 hown6 hgrow6; have R6 : Row w6 w.heap.size D := R5.grown hgrow6 (by omega); have hb6 := hb5.grown hgrow6 hb5.size (fun k hk => by obtain rfl := Option.some.inj hk; exact hb2.size); clear hown5 R3 R4 R5 hb3 hb4 hb5 hgrow3 hgrow4 hgrow5 hgrow6))
      refine (list_nil _ _ _ _ _ _ _ _ (by simp)).mono ?_
      rintro e w7 ⟨rfl, hb7⟩
      go_wp2_with fail
      refine (list_nil _ _ _ _ _ _ _ _ (by simp)).mono ?_
      rintro e w8 ⟨rfl, hb8⟩
      have hb8' : Below w.heap.size w w8 := (hb6.trans (hb7.mono hb6.size)).trans (hb8.mono (Nat.le_trans hb6.size hb7.size))
      clear hb6 hb7 hb8
      go_wp2
      go_ret
      exact ⟨rfl, hb8'⟩

set_option maxRecDepth 100000 in
set_option maxHeartbeats 1000000 in
theorem law_nilData (a1 : Option Addr) (len1 cap1 : Nat) (Pf : List Int) (a2 : Option Addr) (len2 cap2 : Nat) (Sf : List Int) (ind : Bool) (w : World)
    (s1 : Src w a1 len1 cap1 Pf) (s2 : Src w a2 len2 cap2 Sf) (hsum : len1 + len2 ≤ 1048576) :
    Calls Try.prog 3 #[.slice none 0 0, .slice a1 len1 cap1, .slice a2 len2 cap2, .bool ind, .int .i64 0, .int .i64 0, .int .i64 0] w fun e w' => e = .returned (.bool true) ∧ Below w.heap.size w w' := by
  obtain ⟨i0, hi, hz0, hz1, hz2⟩ := info_parts Try.info5
  have hen := eql_nil
  have g3 : (decide ((1048576 : Int) < len1)) = false := by simp; omega
  have g4 : (decide ((1048576 : Int) < len2)) = false := by simp; omega
  cases ind
  all_goals
    go_enter Try.func3, Try.ntmps3
    go_wp2_with (first
      | (go_at_call 4; refine (bytes_any _ _ _ _ _ _ _ _ _ _ _ _ _ _ (by omega) (by omega) (by omega) (by omega)).mono ?_; rintro e w' ⟨rfl, rfl⟩)
      | (at_make; refine wpList_make_own _ rfl _ (.tmp 96) 22 rfl w.heap.size 5 i0 (.int .u8 0) 1 Try.underlying22 hi hz0 hz1 .i64 .i64 _ (len1 + len2) rfl rfl (by omega) (by rw [hz2]; omega) (by unfold maxLen; omega) (Nat.le_refl _) ?_; intro w3 hown3 hgrow3; have hb3 := (Below.refl w.heap.size w).grown hgrow3 (Nat.le_refl _) (by simp))
      | (at_builtin; refine wpList_append_fits_any _ rfl (.tmp 98) (.tmp 99) 22 rfl w.heap.size 5 i0 1 Try.underlying22 hi hz1 w.heap.size 0 (len1 + len2) [] rfl hown3 a1 len1 cap1 (Pf.map (Value.int .u8)) rfl (by simp [s1.1]) s1.2.1 (s1.below hb3).2.2 (ints_oneCell _ _) (by omega) ?_; intro w4 hown4 hgrow4; simp only [Nat.zero_add, List.nil_append] at hown4; have hb4 := hb3.grown hgrow4 hb3.size (fun k hk => by obtain rfl := Option.some.inj hk; exact Nat.le_refl _); clear hown3)
      | (at_builtin; refine wpList_append_fits_any _ rfl (.tmp 101) (.tmp 102) 22 rfl w.heap.size 5 i0 1 Try.underlying22 hi hz1 w.heap.size len1 (len1 + len2) _ rfl hown4 none 0 0 [] rfl (by simp) (by simp) (by simp) (by simp) (by omega) ?_; intro w5 hown5 hgrow5; simp only [Nat.add_zero, List.append_nil] at hown5; have hb5 := hb4.grown hgrow5 hb4.size (fun k hk => by obtain rfl := Option.some.inj hk; exact Nat.le_refl _); clear hown4)
      | (at_builtin; refine wpList_append_fits_any _ rfl (.tmp 104) (.tmp 105) 22 rfl w.heap.size 5 i0 1 Try.underlying22 hi hz1 w.heap.size len1 (len1 + len2) _ rfl hown5 a2 len2 cap2 (Sf.map (Value.int .u8)) rfl (by simp [s2.1]) s2.2.1 (s2.below hb5).2.2 (ints_oneCell _ _) (by omega) ?_; intro w6 hown6 hgrow6; have hb6 := hb5.grown hgrow6 hb5.size (fun k hk => by obtain rfl := Option.some.inj hk; exact Nat.le_refl _); clear hown5 hown6 hb3 hb4 hb5 hgrow3 hgrow4 hgrow5 hgrow6))
    refine (list_nil _ _ _ _ _ _ _ _ (by simp)).mono ?_
    rintro e w7 ⟨rfl, hb7⟩
    go_wp2_with fail
    refine (list_nil _ _ _ _ _ _ _ _ (by simp)).mono ?_
    rintro e w8 ⟨rfl, hb8⟩
    have hb8' : Below w.heap.size w w8 := (hb6.trans (hb7.mono hb6.size)).trans (hb8.mono (Nat.le_trans hb6.size hb7.size))
    clear hb6 hb7 hb8
    go_wp2
    go_ret
    exact ⟨rfl, hb8'⟩
end Go.Proofs.Qxb6616501a
