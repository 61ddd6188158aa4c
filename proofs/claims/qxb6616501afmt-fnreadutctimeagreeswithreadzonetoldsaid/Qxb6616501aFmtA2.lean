import Derived.Test.Qxb6616501aFmtA1
import Derived.Test.Qxb6616501aFmtP
import Derived.WalkLawsBesides
import Derived.Deep.RegionWith
import Derived.Deep.RegionHeld
import Derived.Deep.QuietTactic
import Derived.BigQuiet
namespace Go.Proofs.Qxb6616501aFmt
open Go.RowKit

/-- The scanner's block. -/
def Sc (w : World) (b : Nat) (s : ByteArray) (p : Nat) (e : Value) : Prop := w.heap[b]? = some (.cells #[.string s, .int .i64 p, e] 37 (0, 0))

theorem Sc.c0 {w : World} {b : Nat} {s : ByteArray} {p : Nat} {e : Value} (h : Sc w b s p e) : w.cell? ⟨b, 0, none⟩ = some (.string s) := by rw [cell_of_row w b 0 _ 37 (0, 0) h]; rfl
theorem Sc.c1 {w : World} {b : Nat} {s : ByteArray} {p : Nat} {e : Value} (h : Sc w b s p e) : w.cell? ⟨b, 1, none⟩ = some (.int .i64 p) := by rw [cell_of_row w b 1 _ 37 (0, 0) h]; rfl
theorem Sc.c2 {w : World} {b : Nat} {s : ByteArray} {p : Nat} {e : Value} (h : Sc w b s p e) : w.cell? ⟨b, 2, none⟩ = some e := by rw [cell_of_row w b 2 _ 37 (0, 0) h]; rfl
theorem Sc.fz {w : World} {b : Nat} {s : ByteArray} {p : Nat} {e : Value} (h : Sc w b s p e) (o : Nat) : w.frozen? ⟨b, o, none⟩ = false := by
  unfold Sc at h; simp [World.frozen?, h]
theorem Sc.lt {w : World} {b : Nat} {s : ByteArray} {p : Nat} {e : Value} (h : Sc w b s p e) : b < w.heap.size := (Array.getElem?_eq_some_iff.1 h).1
theorem Sc.set1 {w : World} {b : Nat} {s : ByteArray} {p q : Nat} {e : Value} (h : Sc w b s p e) : Sc (w.setCell ⟨b, 1, none⟩ (.int .i64 q)) b s q e := by
  unfold Sc at *
  simp [World.setCell, Array.getElem?_modify, h]
theorem Sc.set2 {w : World} {b : Nat} {s : ByteArray} {p : Nat} {e e' : Value} (h : Sc w b s p e) : Sc (w.setCell ⟨b, 2, none⟩ e') b s p e' := by
  unfold Sc at *
  simp [World.setCell, Array.getElem?_modify, h]
theorem Sc.grown {w w' : World} {b : Nat} {s : ByteArray} {p : Nat} {e : Value} {r : Option Nat} (h : Sc w b s p e) (hg : w.grownBy w' r) (hr : some b ≠ r) : Sc w' b s p e := by
  have := hg.block b h.lt hr
  unfold Sc at *
  rw [this]; exact h

theorem Sc.alloc {w : World} {b : Nat} {s : ByteArray} {p : Nat} {e : Value} (h : Sc w b s p e) (o : Obj) : Sc (w.alloc o) b s p e := h.grown (World.grownBy_alloc w o none) (by simp)
theorem Sc.drewN {w : World} {b : Nat} {s : ByteArray} {p : Nat} {e : Value} (h : Sc w b s p e) (n : Nat) : Sc (w.drewN n) b s p e := h
theorem grown_none {a b : World} (h : a.grownBy b none) (r : Option Nat) : a.grownBy b r :=
  ⟨h.os, h.tape, h.output, h.size, fun i hi _ => h.block i hi (by simp)⟩
theorem grown_set (w : World) (b o : Nat) (v : Value) : w.grownBy (w.setCell ⟨b, o, none⟩ v) (some b) :=
  ⟨rfl, rfl, rfl, by simp [World.setCell], fun i _ hr => Below.heap_setCell _ _ _ _ (fun e => hr (by rw [e]))⟩
theorem grown_drewN {w w' : World} {r : Option Nat} (h : w.grownBy w' r) (n : Nat) : w.grownBy (w'.drewN n) r := ⟨h.os, h.tape, h.output, h.size, h.block⟩
theorem grown_refl (w : World) (r : Option Nat) : w.grownBy w r := ⟨rfl, rfl, rfl, Nat.le_refl _, fun _ _ _ => rfl⟩

/-- An error's value, where the flag says none: nil; else one that is held. -/
def ErrIs (ok : Bool) (e : Value) : Prop := if ok then e = .nilIface else ∃ t x, e = .iface t x

theorem errHeld (t : TypeId) (x : Value) : ErrIs false (.iface t x) := by simp [ErrIs]
theorem errNil : ErrIs true .nilIface := by simp [ErrIs]

theorem ret_bool {a b : Bool} (h : a = b) : Ending.returned (.bool a) = .returned (.bool b) := by rw [h]

set_option maxRecDepth 100000 in
set_option maxHeartbeats 400000 in
theorem digitNext_any (b : Nat) (s : ByteArray) (p : Nat) (er : Value) (w : World) (hs : Sc w b s p er) :
    Calls Tryf.prog 18 #[.pointer (some ⟨b, 0, none⟩)] w fun e w' => e = .returned (.bool (dig s p)) ∧ ∃ n, w.drewN n = w' := by
  have c0 := hs.c0
  have c1 := hs.c1
  by_cases h : p < s.size
  · have hi : (p : Int) < (s.size : Int) := by omega
    have hb := byt_in h
    rw [dig_in h, hb]
    clear hb
    by_cases h1 : (48 : Int) ≤ (s[p].toNat : Int)
    · go_enter Tryf.func18, Tryf.ntmps18
      go_wp2
      go_quiet (fail)
      go_wp2
      go_ret
      refine ⟨ret_bool (by simp [h1]), _, rfl⟩
    · have h1' : decide ((48 : Int) ≤ (s[p].toNat : Int)) = false := by simpa using h1
      go_enter Tryf.func18, Tryf.ntmps18
      go_wp2
      go_quiet (fail)
      go_wp2
      go_ret
      refine ⟨ret_bool (by simp [h1']), _, rfl⟩
  · have h1' : decide ((p : Int) < (s.size : Int)) = false := by simpa using h
    rw [dig_out (Nat.not_lt.1 h)]
    go_enter Tryf.func18, Tryf.ntmps18
    go_wp2
    go_quiet (fail)
    go_wp2
    go_ret
    refine ⟨rfl, _, rfl⟩

set_option maxRecDepth 100000 in
set_option maxHeartbeats 400000 in
theorem outOfPlace_any (b : Nat) (s : ByteArray) (p : Nat) (er : Value) (w : World) (hs : Sc w b s p er) (h : p < s.size) :
    Calls Tryf.prog 21 #[.pointer (some ⟨b, 0, none⟩)] w fun e w' => e = .returned (.tuple #[]) ∧ (∃ e', ErrIs false e' ∧ Sc w' b s p e') ∧ w.grownBy w' (some b) := by
  have c0 := hs.c0
  have c1 := hs.c1
  have f2 := hs.fz 2
  have hi : (p : Int) < (s.size : Int) := by omega
  go_enter Tryf.func21, Tryf.ntmps21
  go_wp2
  go_region_held (fun w' => w'.cell? ⟨b, 0, none⟩ = some (.string s) ∧ w'.cell? ⟨b, 1, none⟩ = some (.int .i64 p)) ((first | go_keep | exact ⟨hs1.set2.c0, hs1.set2.c1⟩)) ((go_at_call 20; refine (errorf2_drew (s[p].toNat : Int) p w).mono ?_; rintro e w1 ⟨⟨a, rfl⟩, hg⟩; have hs1 : Sc w1 b s p er := hs.grown hg (by simp); have HG : Hid (w.grownBy w1 (some b)) := grown_none hg _; have c0' := hs1.c0; have c1' := hs1.c1; have c2 := hs1.c2; have f3 := hs1.fz 2; clear hg))
  go_wp2
  go_end0
  exact ⟨rfl, ⟨_, errHeld _ _, hs1.set2⟩, grown_trans HG.out (grown_set _ _ _ _)⟩

set_option maxRecDepth 100000 in
set_option maxHeartbeats 400000 in
theorem expected_end (b : Nat) (s : ByteArray) (p : Nat) (er : Value) (what : ByteArray) (w : World) (hs : Sc w b s p er) (h : p = s.size) :
    Calls Tryf.prog 22 #[.pointer (some ⟨b, 0, none⟩), .string what] w fun e w' => (∃ a, e = .returned (.iface 47 (.pointer (some a)))) ∧ w.grownBy w' none := by
  have c0 := hs.c0
  have c1 := hs.c1
  have hi : ((p : Int) == (s.size : Int)) = true := by simp; omega
  go_enter Tryf.func22, Tryf.ntmps22
  go_wp2
  go_quiet (fail)
  go_wp2_with fail
  refine (errorf3_at what (w.drewN nq)).mono ?_
  rintro e w1 ⟨⟨a, rfl⟩, hg⟩
  have HG : Hid (w.grownBy w1 none) := grown_trans (grown_drewN (grown_refl _ _) _) hg
  clear hg
  go_wp2
  go_ret
  exact ⟨⟨_, rfl⟩, HG.out⟩

set_option maxRecDepth 100000 in
set_option maxHeartbeats 400000 in
theorem expected_at (b : Nat) (s : ByteArray) (p : Nat) (er : Value) (what : ByteArray) (w : World) (hs : Sc w b s p er) (h : p < s.size) :
    Calls Tryf.prog 22 #[.pointer (some ⟨b, 0, none⟩), .string what] w fun e w' => (∃ a, e = .returned (.iface 47 (.pointer (some a)))) ∧ w.grownBy w' none := by
  have c0 := hs.c0
  have c1 := hs.c1
  have hi : (p : Int) < (s.size : Int) := by omega
  have hi' : ((p : Int) == (s.size : Int)) = false := by simp; omega
  go_enter Tryf.func22, Tryf.ntmps22
  go_wp2
  go_quiet (fail)
  go_wp2_with fail
  have hs2 := hs.drewN nq
  have HG0 : Hid (w.grownBy (w.drewN nq) none) := grown_drewN (grown_refl _ _) _
  generalize w.drewN nq = w2 at *
  have d0 := hs2.c0
  have d1 := hs2.c1
  go_region_held (fun w' => w'.cell? ⟨b, 0, none⟩ = some (.string s) ∧ w'.cell? ⟨b, 1, none⟩ = some (.int .i64 p)) ((first | go_keep)) ((go_at_call 20; refine (errorf4_drew (s[p].toNat : Int) p what w2).mono ?_; rintro e w1 ⟨⟨a, rfl⟩, hg⟩; have hs1 : Sc w1 b s p er := hs2.grown hg (by simp); have HG : Hid (w2.grownBy w1 none) := hg; have c0' := hs1.c0; have c1' := hs1.c1; clear hg))
  go_wp2
  go_ret
  exact ⟨⟨_, rfl⟩, grown_trans HG0.out HG.out⟩
end Go.Proofs.Qxb6616501aFmt
