import Derived.Test.Qxb6616745aRows
import Derived.Test.Qxb6616745aT0
import Derived.WalkSpells
import Derived.WalkLawsBesides
import Derived.RegionTactic
import Derived.Deep.QuietTactic
import Derived.BigQuiet
import Derived.BigRegion
import Derived.Deep.RegionHeld
namespace Go.Proofs.Qxb6616745a
open Go.RowKit

theorem ret_i32 {a b : Int} (h : a = b) : Ending.returned (.int .i32 a) = .returned (.int .i32 b) := by rw [h]

set_option maxHeartbeats 400000 in
theorem nsec_any (b : Nat) (x : Int) (w : World) (h : w.cell? ⟨b, 0, none⟩ = some (.int .u64 x)) (h0 : 0 ≤ x) (h1 : x < 1000000000) :
    Calls Try.prog 23 #[.pointer (some ⟨b, 0, none⟩)] w fun e w' => e = .returned (.int .i32 x) ∧ w = w' := by
  have ha := and_low h0 h1
  go_enter Try.func23, Try.ntmps23
  go_wp2
  go_ret
  exact ⟨ret_i32 (by omega), rfl⟩

set_option maxHeartbeats 400000 in
theorem sec_any (b : Nat) (x y : Int) (w : World) (h : w.cell? ⟨b, 0, none⟩ = some (.int .u64 x)) (hy : w.cell? ⟨b, 1, none⟩ = some (.int .i64 y)) (h0 : 0 ≤ x) (h1 : x < 1000000000) :
    Calls Try.prog 29 #[.pointer (some ⟨b, 0, none⟩)] w fun e w' => e = .returned (.int .i64 y) ∧ w = w' := by
  have ht := top_ne h0 h1
  go_enter Try.func29, Try.ntmps29
  go_wp2
  go_ret
  exact ⟨rfl, rfl⟩

/-- The order of two counts of nanoseconds. -/
def cmpv (x y : Int) : Int := if x < y then -1 else if y < x then 1 else 0

set_option maxRecDepth 100000 in
set_option maxHeartbeats 1000000 in
theorem compare_any (x y : Int) (w : World) :
    Calls Try.prog 34 #[.agg #[.int .u64 (x % 1000000000), .int .i64 (x / 1000000000), .pointer none], .agg #[.int .u64 (y % 1000000000), .int .i64 (y / 1000000000), .pointer none]] w fun e w' =>
      e = .returned (.int .i64 (cmpv x y)) ∧ w.grownBy w' none := by
  have m0 : 0 ≤ x % 1000000000 := by omega
  have m1 : x % 1000000000 < 1000000000 := by omega
  have n0 : 0 ≤ y % 1000000000 := by omega
  have n1 : y % 1000000000 < 1000000000 := by omega
  obtain ⟨xr, hxr⟩ : ∃ r, x % 1000000000 = r := ⟨_, rfl⟩
  obtain ⟨xq, hxq⟩ : ∃ r, x / 1000000000 = r := ⟨_, rfl⟩
  obtain ⟨yr, hyr⟩ : ∃ r, y % 1000000000 = r := ⟨_, rfl⟩
  obtain ⟨yq, hyq⟩ : ∃ r, y / 1000000000 = r := ⟨_, rfl⟩
  rw [hxr, hxq, hyr, hyq]
  rw [hxr] at m0 m1
  rw [hyr] at n0 n1
  have HX : Hid (x = 1000000000 * xq + xr) := by show _ = _; omega
  have HY : Hid (y = 1000000000 * yq + yr) := by show _ = _; omega
  clear hxr hxq hyr hyq
  have ht := and_and_top m0 m1 n0 n1
  have hg : w.grownBy ((w.alloc (.cells #[.int .u64 xr, .int .i64 xq, .pointer none] 45)).alloc (.cells #[.int .u64 yr, .int .i64 yq, .pointer none] 45)) none := by
    have h1 := World.grownBy_alloc w (.cells #[.int .u64 xr, .int .i64 xq, .pointer none] 45) none
    have h2 := World.grownBy_alloc (w.alloc (.cells #[.int .u64 xr, .int .i64 xq, .pointer none] 45)) (.cells #[.int .u64 yr, .int .i64 yq, .pointer none] 45) none
    exact ⟨h2.os.trans h1.os, h2.tape.trans h1.tape, h2.output.trans h1.output, Nat.le_trans h1.size h2.size, fun i hi hr => (h2.block i (Nat.lt_of_lt_of_le hi h1.size) hr).trans (h1.block i hi hr)⟩
  have tx := top_ne m0 m1
  have ty := top_ne n0 n1
  have ax := and_low m0 m1
  have ay := and_low n0 n1
  by_cases hq : xq = yq
  · have hqb : (xq == yq) = true := by simpa using hq
    have HQ : Hid (xq = yq) := hq
    clear hq
    by_cases hlt : xr < yr
    · have e : cmpv x y = -1 := by have := HQ.out; rw [cmpv, HX.out, HY.out, if_pos (by omega)]
      rw [e]
      go_enter Try.func34, Try.ntmps34
      go_wp2
      go_ret
      exact ⟨rfl, hg⟩
    · by_cases hgt : yr < xr
      · have e : cmpv x y = 1 := by have := HQ.out; rw [cmpv, HX.out, HY.out, if_neg (by omega), if_pos (by omega)]
        rw [e]
        go_enter Try.func34, Try.ntmps34
        go_wp2
        go_ret
        exact ⟨rfl, hg⟩
      · have e : cmpv x y = 0 := by have := HQ.out; rw [cmpv, HX.out, HY.out, if_neg (by omega), if_neg (by omega)]
        rw [e]
        go_enter Try.func34, Try.ntmps34
        go_wp2
        go_ret
        exact ⟨rfl, hg⟩
  · have hqb : (xq == yq) = false := by simpa using hq
    by_cases hlt : xq < yq
    · have e : cmpv x y = -1 := by rw [cmpv, HX.out, HY.out, if_pos (by omega)]
      rw [e]
      go_enter Try.func34, Try.ntmps34
      go_wp2
      go_ret
      exact ⟨rfl, hg⟩
    · have hgt : yq < xq := by omega
      have e : cmpv x y = 1 := by rw [cmpv, HX.out, HY.out, if_neg (by omega), if_pos (by omega)]
      rw [e]
      go_enter Try.func34, Try.ntmps34
      go_wp2
      go_ret
      exact ⟨rfl, hg⟩

/-- A slot's block. -/
def Sl (w : World) (b : Nat) (i u : Bool) (l : Int) : Prop :=
  w.heap[b]? = some (.cells #[.int .i64 0, .int .i64 0, .bool i, .bool u, .int .u64 (l % 1000000000), .int .i64 (l / 1000000000), .pointer none, .int .i64 0, .int .i64 0, .int .i64 0] 54 (0, 0))
section
variable {w w' : World} {b : Nat} {i u : Bool} {l : Int}
theorem Sl.lt (h : Sl w b i u l) : b < w.heap.size := (Array.getElem?_eq_some_iff.1 h).1
theorem Sl.fz (h : Sl w b i u l) (o : Nat) : w.frozen? ⟨b, o, none⟩ = false := by unfold Sl at h; simp [World.frozen?, h]
theorem Sl.c2 (h : Sl w b i u l) : w.cell? ⟨b, 2, none⟩ = some (.bool i) := by rw [cell_of_row w b 2 _ 54 (0, 0) h]; rfl
theorem Sl.c3 (h : Sl w b i u l) : w.cell? ⟨b, 3, none⟩ = some (.bool u) := by rw [cell_of_row w b 3 _ 54 (0, 0) h]; rfl
theorem Sl.c4 (h : Sl w b i u l) : w.cell? ⟨b, 4, none⟩ = some (.int .u64 (l % 1000000000)) := by rw [cell_of_row w b 4 _ 54 (0, 0) h]; rfl
theorem Sl.c5 (h : Sl w b i u l) : w.cell? ⟨b, 5, none⟩ = some (.int .i64 (l / 1000000000)) := by rw [cell_of_row w b 5 _ 54 (0, 0) h]; rfl
theorem Sl.c6 (h : Sl w b i u l) : w.cell? ⟨b, 6, none⟩ = some (.pointer none) := by rw [cell_of_row w b 6 _ 54 (0, 0) h]; rfl
theorem Sl.set3 (h : Sl w b i u l) (v : Bool) : Sl (w.setCell ⟨b, 3, none⟩ (.bool v)) b i v l := by
  unfold Sl at *
  simp [World.setCell, Array.getElem?_modify, h]
theorem Sl.grown {r : Option Nat} (h : Sl w b i u l) (hg : w.grownBy w' r) (hr : some b ≠ r) : Sl w' b i u l := by
  have := hg.block b h.lt hr
  unfold Sl at *
  rw [this]; exact h
end
theorem grown_trans {a b c : World} {r : Option Nat} (h : a.grownBy b r) (k : b.grownBy c r) : a.grownBy c r :=
  ⟨k.os.trans h.os, k.tape.trans h.tape, k.output.trans h.output, Nat.le_trans h.size k.size, fun i hi hr => (k.block i (Nat.lt_of_lt_of_le hi h.size) hr).trans (h.block i hi hr)⟩
theorem grown_none {a b : World} (h : a.grownBy b none) (r : Option Nat) : a.grownBy b r := ⟨h.os, h.tape, h.output, h.size, fun i hi _ => h.block i hi (by simp)⟩
theorem grown_set (w : World) (b o : Nat) (v : Value) : w.grownBy (w.setCell ⟨b, o, none⟩ v) (some b) :=
  ⟨rfl, rfl, rfl, by simp [World.setCell], fun i _ hr => Below.heap_setCell _ _ _ _ (fun e => hr (by rw [e]))⟩
theorem grown_drewN {w w' : World} {r : Option Nat} (h : w.grownBy w' r) (n : Nat) : w.grownBy (w'.drewN n) r := ⟨h.os, h.tape, h.output, h.size, h.block⟩
theorem grown_drew {w w' : World} {r : Option Nat} (h : w.grownBy w' r) : w.grownBy w'.drew r := ⟨h.os, h.tape, h.output, h.size, h.block⟩
theorem grown_refl (w : World) (r : Option Nat) : w.grownBy w r := ⟨rfl, rfl, rfl, Nat.le_refl _, fun _ _ _ => rfl⟩

set_option maxRecDepth 100000 in
set_option maxHeartbeats 1000000 in
theorem byLast_any (b c : Nat) (i u i' u' : Bool) (x y : Int) (w : World) (hb : Sl w b i u x) (hc : Sl w c i' u' y) :
    Calls Try.prog 32 #[.pointer (some ⟨b, 0, none⟩), .pointer (some ⟨c, 0, none⟩)] w fun e w' => e = .returned (.int .i64 (cmpv x y)) ∧ w.grownBy w' none := by
  have b4 := hb.c4
  have b5 := hb.c5
  have b6 := hb.c6
  have c4 := hc.c4
  have c5 := hc.c5
  have c6 := hc.c6
  go_enter Try.func32, Try.ntmps32
  go_wp2
  go_region_held (fun w' => w'.cell? ⟨b, 4, none⟩ = some (.int .u64 (x % 1000000000)) ∧ w'.cell? ⟨b, 5, none⟩ = some (.int .i64 (x / 1000000000)) ∧ w'.cell? ⟨b, 6, none⟩ = some (.pointer none) ∧ w'.cell? ⟨c, 4, none⟩ = some (.int .u64 (y % 1000000000)) ∧ w'.cell? ⟨c, 5, none⟩ = some (.int .i64 (y / 1000000000)) ∧ w'.cell? ⟨c, 6, none⟩ = some (.pointer none)) ((first | go_keep | exact ⟨hb1.c4, hb1.c5, hb1.c6, hc1.c4, hc1.c5, hc1.c6⟩)) ((go_at_call 34; refine (compare_any x y _).mono ?_; rintro e w1 ⟨rfl, hg⟩; have hb1 : Sl w1 b i u x := Sl.grown (w := w.drew) hb hg (by simp); have hc1 : Sl w1 c i' u' y := Sl.grown (w := w.drew) hc hg (by simp); have HG : Hid (w.grownBy w1 none) := ⟨hg.os, hg.tape, hg.output, hg.size, hg.block⟩; clear hg))
  go_wp2
  go_ret
  exact ⟨rfl, HG.out⟩
end Go.Proofs.Qxb6616745a
