import Derived.Test.Qxb6617055aFmtA3
namespace Go.Proofs.Qxb6617055aFmt
open Go.RowKit

theorem grown_below {w w' : World} (h : w.grownBy w' none) : Below w.heap.size w w' := ⟨h.os, h.tape, h.output, h.size, fun k hk => h.block k hk (by simp)⟩

set_option maxHeartbeats 400000 in
theorem bytes6_any (s : ByteArray) (w : World) (h : s.size ≤ 1048576) : Calls Tryf.prog 6 #[.string s] w fun e w' => e = .returned (.bool true) ∧ w = w' := by
  go_enter Tryf.func6, Tryf.ntmps6
  go_wp2
  go_ret
  exact ⟨rfl, rfl⟩
set_option maxHeartbeats 400000 in
theorem bytes6_no (s : ByteArray) (w : World) (h : 1048576 < s.size) : Calls Tryf.prog 6 #[.string s] w fun e w' => e = .returned (.bool false) ∧ w = w' := by
  go_enter Tryf.func6, Tryf.ntmps6
  go_wp2
  go_ret
  exact ⟨rfl, rfl⟩

set_option maxRecDepth 100000 in
set_option maxHeartbeats 1000000 in
theorem agree_long (s : ByteArray) (w : World) (h : 1048576 < s.size) : Calls Tryf.prog 3 #[.string s] w fun e w' => e = .returned (.bool true) ∧ Below w.heap.size w w' := by
  go_enter Tryf.func3, Tryf.ntmps3
  go_wp2_with (go_at_call 6; refine (bytes6_no _ _ h).mono ?_; rintro e w' ⟨rfl, rfl⟩)
  go_ret
  exact ⟨rfl, Below.refl _ _⟩

set_option maxRecDepth 100000 in
set_option maxHeartbeats 1000000 in
theorem agree_never (w : World) : Calls Tryf.prog 3 #[.string ⟨#[110, 101, 118, 101, 114]⟩] w fun e w' => e = .returned (.bool true) ∧ Below w.heap.size w w' := by
  have h6 : (ByteArray.size ⟨#[110, 101, 118, 101, 114]⟩) ≤ 1048576 := by decide
  go_enter Tryf.func3, Tryf.ntmps3
  go_wp2_with (first
    | (go_at_call 6; refine (bytes6_any _ _ h6).mono ?_; rintro e w' ⟨rfl, rfl⟩)
    | (go_at_call 7; refine (outer_never _).mono ?_; rintro e w' ⟨rfl, rfl⟩)
    | (go_at_call 9; refine (setting_yes5 _).mono ?_; rintro e w' ⟨rfl, rfl⟩)
    | (go_at_call 14; refine (parse_never _).mono ?_; rintro e w' ⟨rfl, rfl⟩)
    | go_in)
  go_ret
  exact ⟨rfl, Below.refl _ _⟩

set_option maxRecDepth 100000 in
set_option maxHeartbeats 1000000 in
theorem agree_always (w : World) : Calls Tryf.prog 3 #[.string ⟨#[97, 108, 119, 97, 121, 115]⟩] w fun e w' => e = .returned (.bool true) ∧ Below w.heap.size w w' := by
  have h6 : (ByteArray.size ⟨#[97, 108, 119, 97, 121, 115]⟩) ≤ 1048576 := by decide
  go_enter Tryf.func3, Tryf.ntmps3
  go_wp2_with (first
    | (go_at_call 6; refine (bytes6_any _ _ h6).mono ?_; rintro e w' ⟨rfl, rfl⟩)
    | (go_at_call 7; refine (outer_always _).mono ?_; rintro e w' ⟨rfl, rfl⟩)
    | (go_at_call 9; refine (setting_yes6 _).mono ?_; rintro e w' ⟨rfl, rfl⟩)
    | (go_at_call 14; refine (parse_always _).mono ?_; rintro e w' ⟨rfl, rfl⟩)
    | go_in)
  go_ret
  exact ⟨rfl, Below.refl _ _⟩

set_option maxRecDepth 100000 in
set_option maxHeartbeats 1000000 in
theorem agree_other (s : ByteArray) (w : World) (h : s.size ≤ 1048576) (hn : s ≠ never) (ha : s ≠ always) : Calls Tryf.prog 3 #[.string s] w fun e w' => e = .returned (.bool true) ∧ Below w.heap.size w w' := by
  have h1 : (s.toList == [110, 101, 118, 101, 114]) = false := toList_ne hn
  have h2 : (s.toList == [97, 108, 119, 97, 121, 115]) = false := toList_ne ha
  have HN : Hid (s ≠ never) := hn
  have HA : Hid (s ≠ always) := ha
  clear hn ha
  go_enter Tryf.func3, Tryf.ntmps3
  go_wp2_with (first
    | (go_at_call 6; refine (bytes6_any _ _ h).mono ?_; rintro e w' ⟨rfl, rfl⟩)
    | (go_at_call 7; refine (outer_other s _ h1 h2).mono ?_; rintro e w1 ⟨⟨a, rfl⟩, hg1⟩)
    | (go_at_call 9; refine (setting_other s _ HN.out HA.out).mono ?_; rintro e w' ⟨rfl, rfl⟩)
    | (go_at_call 14; refine (parse_other s _ h1 h2).mono ?_; rintro e w2 ⟨⟨b, t, rfl, hb⟩, hg2⟩; clear hb)
    | go_in)
  go_ret
  exact ⟨rfl, grown_below (grown_trans hg1 hg2)⟩

theorem agree_any (s : ByteArray) (w : World) : Calls Tryf.prog 3 #[.string s] w fun e w' => e = .returned (.bool true) ∧ Below w.heap.size w w' := by
  by_cases h : s.size ≤ 1048576
  · by_cases hn : s = never
    · subst hn; exact agree_never w
    · by_cases ha : s = always
      · subst ha; exact agree_always w
      · exact agree_other s w h hn ha
  · exact agree_long s w (by omega)

/-- What ParseShowDetails accepts, and what it answers. -/
def acc (s : ByteArray) : Bool := decide (s = never ∨ s = always)
def ans (s : ByteArray) : ByteArray := if acc s then s else ⟨#[]⟩

theorem outer_any (s : ByteArray) (w : World) : Calls Tryf.prog 7 #[.string s] w fun e w' => (∃ er, e = .returned (.tuple #[.string (ans s), er]) ∧ ErrIs (acc s) er) ∧ w.grownBy w' none := by
  by_cases hn : s = never
  · have ea : acc s = true := by simp [acc, hn]
    have es : ans s = s := by simp [ans, ea]
    rw [ea, es]
    subst hn
    exact (outer_never w).mono fun e w' ⟨h1, h2⟩ => by subst h2; exact ⟨⟨_, h1, errNil⟩, grown_refl _ _⟩
  · by_cases ha : s = always
    · have ea : acc s = true := by simp [acc, ha]
      have es : ans s = s := by simp [ans, ea]
      rw [ea, es]
      subst ha
      exact (outer_always w).mono fun e w' ⟨h1, h2⟩ => by subst h2; exact ⟨⟨_, h1, errNil⟩, grown_refl _ _⟩
    · have ea : acc s = false := by simp [acc, hn, ha]
      have es : ans s = ⟨#[]⟩ := by simp [ans, ea]
      rw [ea, es]
      exact (outer_other s w (toList_ne hn) (toList_ne ha)).mono fun e w' ⟨⟨a, h1⟩, h2⟩ => ⟨⟨_, h1, errHeld _ _⟩, h2⟩

set_option maxRecDepth 100000 in
set_option maxHeartbeats 1000000 in
theorem readsBack_any (s : ByteArray) (w : World) : Calls Tryf.prog 11 #[.string s, .string (ans s), .bool (!acc s)] w fun e w' => e = .returned (.bool true) ∧ w.grownBy w' none := by
  cases ea : acc s
  · have es : ans s = ⟨#[]⟩ := by simp [ans, ea]
    rw [es]
    clear es ea
    go_enter Tryf.func11, Tryf.ntmps11
    go_wp2
    go_ret
    exact ⟨rfl, grown_refl _ _⟩
  · have es : ans s = s := by simp [ans, ea]
    rw [es]
    have HO : Hid (∀ w, Calls Tryf.prog 7 #[.string s] w fun e w' => (∃ er, e = .returned (.tuple #[.string s, er]) ∧ ErrIs true er) ∧ w.grownBy w' none) := by
      intro w
      have := outer_any s w
      rwa [es, ea] at this
    clear es ea
    go_enter Tryf.func11, Tryf.ntmps11
    go_wp2_with (go_at_call 7; refine (HO.out _).mono ?_; rintro e w1 ⟨⟨er, rfl, her⟩, hg⟩; obtain rfl : er = .nilIface := by simpa [ErrIs] using her)
    go_ret
    exact ⟨rfl, hg⟩
end Go.Proofs.Qxb6617055aFmt
