import Derived.Test.Qxb6617055aFmtA1
namespace Go.Proofs.Qxb6617055aFmt
open Go.RowKit

def ErrIs (ok : Bool) (e : Value) : Prop := if ok then e = .nilIface else ∃ t x, e = .iface t x
theorem errHeld (t : TypeId) (x : Value) : ErrIs false (.iface t x) := by simp [ErrIs]
theorem errNil : ErrIs true .nilIface := by simp [ErrIs]

set_option maxHeartbeats 400000 in
theorem parse_never (w : World) : Calls Tryf.prog 14 #[.string ⟨#[110, 101, 118, 101, 114]⟩] w fun e w' => e = .returned (.tuple #[.string ⟨#[110, 101, 118, 101, 114]⟩, .nilIface]) ∧ w = w' := by
  go_enter Tryf.func14, Tryf.ntmps14
  go_wp2
  go_ret2
  exact ⟨rfl, rfl⟩

set_option maxHeartbeats 400000 in
theorem parse_always (w : World) : Calls Tryf.prog 14 #[.string ⟨#[97, 108, 119, 97, 121, 115]⟩] w fun e w' => e = .returned (.tuple #[.string ⟨#[97, 108, 119, 97, 121, 115]⟩, .nilIface]) ∧ w = w' := by
  go_enter Tryf.func14, Tryf.ntmps14
  go_wp2
  go_ret2
  exact ⟨rfl, rfl⟩

set_option maxHeartbeats 400000 in
theorem parse_other (s : ByteArray) (w : World) (h1 : (s.toList == [110, 101, 118, 101, 114]) = false) (h2 : (s.toList == [97, 108, 119, 97, 121, 115]) = false) :
    Calls Tryf.prog 14 #[.string s] w fun e w' => (∃ a t, e = .returned (.tuple #[.string ⟨#[]⟩, .iface 35 (.pointer (some a))]) ∧ w'.cell? a = some (.string t)) ∧ w.grownBy w' none := by
  go_enter Tryf.func14, Tryf.ntmps14
  go_wp2_with (go_at_call 15; refine (errorf_quoted s _ _ w).mono ?_; rintro e w1 ⟨⟨a, t, rfl, ha⟩, hg⟩)
  go_ret2
  exact ⟨⟨a, t, rfl, ha⟩, hg⟩

set_option maxHeartbeats 400000 in
theorem outer_never (w : World) : Calls Tryf.prog 7 #[.string ⟨#[110, 101, 118, 101, 114]⟩] w fun e w' => e = .returned (.tuple #[.string ⟨#[110, 101, 118, 101, 114]⟩, .nilIface]) ∧ w = w' := by
  go_enter Tryf.func7, Tryf.ntmps7
  go_wp2_with (go_at_call 14; refine (parse_never _).mono ?_; rintro e w1 ⟨rfl, rfl⟩)
  go_ret2
  exact ⟨rfl, rfl⟩

set_option maxHeartbeats 400000 in
theorem outer_always (w : World) : Calls Tryf.prog 7 #[.string ⟨#[97, 108, 119, 97, 121, 115]⟩] w fun e w' => e = .returned (.tuple #[.string ⟨#[97, 108, 119, 97, 121, 115]⟩, .nilIface]) ∧ w = w' := by
  go_enter Tryf.func7, Tryf.ntmps7
  go_wp2_with (go_at_call 14; refine (parse_always _).mono ?_; rintro e w1 ⟨rfl, rfl⟩)
  go_ret2
  exact ⟨rfl, rfl⟩

set_option maxHeartbeats 400000 in
theorem outer_other (s : ByteArray) (w : World) (h1 : (s.toList == [110, 101, 118, 101, 114]) = false) (h2 : (s.toList == [97, 108, 119, 97, 121, 115]) = false) :
    Calls Tryf.prog 7 #[.string s] w fun e w' => (∃ a, e = .returned (.tuple #[.string ⟨#[]⟩, .iface 34 (.pointer (some a))])) ∧ w.grownBy w' none := by
  go_enter Tryf.func7, Tryf.ntmps7
  go_wp2_with (first
    | (go_at_call 14; refine (parse_other s _ h1 h2).mono ?_; rintro e w1 ⟨⟨a, t, rfl, ha⟩, hg⟩; have HG : Hid (w.grownBy w1 none) := hg; clear hg)
    | (go_at_call 15; refine (errorf_wrapped a t w1 ha).mono ?_; rintro e w2 ⟨⟨b, rfl⟩, hg2⟩))
  go_ret2
  exact ⟨⟨b, rfl⟩, grown_trans HG.out hg2⟩
end Go.Proofs.Qxb6617055aFmt
