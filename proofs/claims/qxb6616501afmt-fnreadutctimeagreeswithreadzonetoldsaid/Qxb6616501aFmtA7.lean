import Derived.Test.Qxb6616501aFmtA6
import Derived.Test.Qxb6616501aFmtQ
import Derived.RegionTactic
namespace Go.Proofs.Qxb6616501aFmt
open Go.RowKit

set_option maxHeartbeats 400000 in
theorem bytes13_any (s : ByteArray) (x : Int) (b : Bool) (z y : Int) (w : World) (h : s.size ≤ 1048576) :
    Calls Tryf.prog 13 #[.string s, .int .i64 x, .bool b, .int .u8 z, .int .i64 y] w fun e w' => e = .returned (.bool true) ∧ w = w' := by
  go_enter Tryf.func13, Tryf.ntmps13
  go_wp2
  go_ret
  exact ⟨rfl, rfl⟩
set_option maxHeartbeats 400000 in
theorem bytes13_no (s : ByteArray) (x : Int) (b : Bool) (z y : Int) (w : World) (h : 1048576 < s.size) :
    Calls Tryf.prog 13 #[.string s, .int .i64 x, .bool b, .int .u8 z, .int .i64 y] w fun e w' => e = .returned (.bool false) ∧ w = w' := by
  go_enter Tryf.func13, Tryf.ntmps13
  go_wp2
  go_ret
  exact ⟨rfl, rfl⟩
set_option maxHeartbeats 400000 in
theorem bytes14_any (s : ByteArray) (x : Int) (z y : Int) (w : World) (h : s.size ≤ 1048576) :
    Calls Tryf.prog 14 #[.string s, .int .i64 x, .int .u8 z, .int .i64 y] w fun e w' => e = .returned (.bool true) ∧ w = w' := by
  go_enter Tryf.func14, Tryf.ntmps14
  go_wp2
  go_ret
  exact ⟨rfl, rfl⟩
set_option maxHeartbeats 400000 in
theorem bytes14_no (s : ByteArray) (x : Int) (z y : Int) (w : World) (h : 1048576 < s.size) :
    Calls Tryf.prog 14 #[.string s, .int .i64 x, .int .u8 z, .int .i64 y] w fun e w' => e = .returned (.bool false) ∧ w = w' := by
  go_enter Tryf.func14, Tryf.ntmps14
  go_wp2
  go_ret
  exact ⟨rfl, rfl⟩
set_option maxHeartbeats 400000 in
theorem bytes7_any (s : ByteArray) (x x' : Int) (z y : Int) (w : World) (h : s.size ≤ 1048576) :
    Calls Tryf.prog 7 #[.string s, .int .i64 x, .int .i64 x', .int .u8 z, .int .i64 y] w fun e w' => e = .returned (.bool true) ∧ w = w' := by
  go_enter Tryf.func7, Tryf.ntmps7
  go_wp2
  go_ret
  exact ⟨rfl, rfl⟩
set_option maxHeartbeats 400000 in
theorem bytes7_no (s : ByteArray) (x x' : Int) (z y : Int) (w : World) (h : 1048576 < s.size) :
    Calls Tryf.prog 7 #[.string s, .int .i64 x, .int .i64 x', .int .u8 z, .int .i64 y] w fun e w' => e = .returned (.bool false) ∧ w = w' := by
  go_enter Tryf.func7, Tryf.ntmps7
  go_wp2
  go_ret
  exact ⟨rfl, rfl⟩

set_option maxHeartbeats 400000 in
theorem isDigit_raw (c : Int) (w : World) :
    Calls Tryf.prog 9 #[.int .u8 c] w fun e w' => e = .returned (.bool (decide (48 ≤ c) && decide (c ≤ 57))) ∧ w = w' := by
  by_cases h : 48 ≤ c
  · go_enter Tryf.func9, Tryf.ntmps9
    go_wp2
    go_ret
    exact ⟨ret_bool (by simp [h]), rfl⟩
  · have h' : decide (48 ≤ c) = false := by simpa using h
    go_enter Tryf.func9, Tryf.ntmps9
    go_wp2
    go_ret
    exact ⟨ret_bool (by simp), rfl⟩

/-- The byte that the walk shows at place i is a digit, or not. -/
theorem isDigit_at (s : ByteArray) (i : Nat) (h : i < s.size) (d : Bool) (hd : dig s i = d) (w : World) :
    Calls Tryf.prog 9 #[.int .u8 (s[i].toNat : Int)] w fun e w' => e = .returned (.bool d) ∧ w = w' := by
  refine (isDigit_raw _ w).mono fun e w' ⟨h1, h2⟩ => ⟨?_, h2⟩
  rw [h1, ← hd, dig_in h, byt_in h]

theorem wrapU8 {x : Int} (h : 0 ≤ x) (h' : x ≤ 255) : IntKind.u8.wrap x = x := by
  simp [IntKind.wrap, IntKind.signed, IntKind.bits]; omega

set_option maxRecDepth 100000 in
set_option maxHeartbeats 400000 in
theorem two_at (s : ByteArray) (i : Nat) (h0 : dig s i = true) (h1 : dig s (i + 1) = true) (hz : s.size ≤ 1048576) (w : World) :
    Calls Tryf.prog 11 #[.string s, .int .i64 i] w fun e w' => e = .returned (.int .i64 (two s i)) ∧ ∃ n, w.drewN n = w' := by
  obtain ⟨l0, a0, b0⟩ := dig_true.1 h0
  obtain ⟨l1, a1, b1⟩ := dig_true.1 h1
  have et : two s i = ((s[i].toNat : Int) - 48) * 10 + ((s[i + 1].toNat : Int) - 48) := by
    unfold two dv; rw [byt_in l0, byt_in l1]
  rw [byt_in l0] at a0 b0
  rw [byt_in l1] at a1 b1
  rw [et]
  clear et
  have i0 : (i : Int) < (s.size : Int) := by omega
  have i1 : (i : Int) + 1 < (s.size : Int) := by omega
  have z1 : (0 : Int) ≤ (i : Int) + 1 := by omega
  go_enter Tryf.func11, Tryf.ntmps11
  go_wp2
  go_quiet (fail)
  go_wp2
  go_ret
  exact ⟨rfl, _, rfl⟩
theorem two_int (s : ByteArray) (x : Int) (i : Nat) (hx : x = (i : Int)) (h0 : dig s i = true) (h1 : dig s (i + 1) = true) (hz : s.size ≤ 1048576) (w : World) :
    Calls Tryf.prog 11 #[.string s, .int .i64 x] w fun e w' => e = .returned (.int .i64 (two s i)) ∧ ∃ n, w.drewN n = w' := by
  subst hx; exact two_at s i h0 h1 hz w
end Go.Proofs.Qxb6616501aFmt
