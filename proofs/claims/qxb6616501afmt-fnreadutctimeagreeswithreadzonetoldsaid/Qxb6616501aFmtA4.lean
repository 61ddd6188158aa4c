import Derived.Test.Qxb6616501aFmtA3
namespace Go.Proofs.Qxb6616501aFmt
open Go.RowKit

/-- The block of the time's fields. -/
def Tf (w : World) (f : Nat) (y mo d h mi se un zo off : Int) : Prop :=
  w.heap[f]? = some (.cells #[.int .i64 y, .int .i64 mo, .int .i64 d, .int .i64 h, .int .i64 mi, .int .i64 se, .int .i64 un, .string ⟨#[]⟩, .int .u8 0, .int .u8 zo, .int .i64 off] 40 (0, 0))

section
variable {w w' : World} {f : Nat} {y mo d h mi se un zo off : Int}
theorem Tf.lt (t : Tf w f y mo d h mi se un zo off) : f < w.heap.size := (Array.getElem?_eq_some_iff.1 t).1
theorem Tf.fz (t : Tf w f y mo d h mi se un zo off) (o : Nat) : w.frozen? ⟨f, o, none⟩ = false := by unfold Tf at t; simp [World.frozen?, t]
theorem Tf.c9 (t : Tf w f y mo d h mi se un zo off) : w.cell? ⟨f, 9, none⟩ = some (.int .u8 zo) := by rw [cell_of_row w f 9 _ 40 (0, 0) t]; rfl
theorem Tf.c10 (t : Tf w f y mo d h mi se un zo off) : w.cell? ⟨f, 10, none⟩ = some (.int .i64 off) := by rw [cell_of_row w f 10 _ 40 (0, 0) t]; rfl
theorem Tf.grown {r : Option Nat} (t : Tf w f y mo d h mi se un zo off) (hg : w.grownBy w' r) (hr : some f ≠ r) : Tf w' f y mo d h mi se un zo off := by
  have := hg.block f t.lt hr
  unfold Tf at *
  rw [this]; exact t
theorem Tf.set9 (t : Tf w f y mo d h mi se un zo off) (z : Int) : Tf (w.setCell ⟨f, 9, none⟩ (.int .u8 z)) f y mo d h mi se un z off := by
  unfold Tf at *
  simp [World.setCell, Array.getElem?_modify, t]
theorem Tf.set10 (t : Tf w f y mo d h mi se un zo off) (z : Int) : Tf (w.setCell ⟨f, 10, none⟩ (.int .i64 z)) f y mo d h mi se un zo z := by
  unfold Tf at *
  simp [World.setCell, Array.getElem?_modify, t]
end
theorem Sc.other {w : World} {b : Nat} {s : ByteArray} {p : Nat} {e : Value} (h : Sc w b s p e) {f : Nat} (hf : f ≠ b) (o : Nat) (v : Value) : Sc (w.setCell ⟨f, o, none⟩ v) b s p e :=
  h.grown (grown_set w f o v) (by simpa using fun e => hf e.symm)
theorem Tf.other {w : World} {f : Nat} {y mo d h mi se un zo off : Int} (t : Tf w f y mo d h mi se un zo off) {b : Nat} (hf : f ≠ b) (o : Nat) (v : Value) : Tf (w.setCell ⟨b, o, none⟩ v) f y mo d h mi se un zo off :=
  t.grown (grown_set w b o v) (by simpa using hf)
theorem below_set {B : Nat} {a w : World} (h : Below B a w) {b : Nat} (hb : B ≤ b) (o : Nat) (v : Value) : Below B a (w.setCell ⟨b, o, none⟩ v) := h.setCell (p := ⟨b, o, none⟩) hb v

set_option maxRecDepth 100000 in
set_option maxHeartbeats 400000 in
/-- An error stands: nothing is read. -/
theorem readZone_held (f b : Nat) (s : ByteArray) (p : Nat) (due : Bool) (t : TypeId) (x : Value) (w : World) (hs : Sc w b s p (.iface t x)) :
    Calls Tryf.prog 16 #[.pointer (some ⟨f, 0, none⟩), .pointer (some ⟨b, 0, none⟩), .bool due] w fun e w' => e = .returned (.tuple #[]) ∧ w = w' := by
  have c2 := hs.c2
  go_enter Tryf.func16, Tryf.ntmps16
  go_wp2
  (try simp only [Exit.inBlock, Exit.then]); refine bodyPost_ret (results_none rfl _ _ _) rfl ?_
  exact ⟨rfl, rfl⟩

set_option maxRecDepth 100000 in
set_option maxHeartbeats 400000 in
theorem readZone_Z (f b : Nat) (s : ByteArray) (p : Nat) (due : Bool) (y mo d h mi se un z0 o0 : Int) (w : World) (hs : Sc w b s p .nilIface) (ht : Tf w f y mo d h mi se un z0 o0)
    (hp : p < s.size) (hz : s.size ≤ 1048576) (hfb : f ≠ b) (hB : byt s p = 90) (B : Nat) (hB1 : B ≤ f) (hB2 : B ≤ b) :
    Calls Tryf.prog 16 #[.pointer (some ⟨f, 0, none⟩), .pointer (some ⟨b, 0, none⟩), .bool due] w fun e w' => e = .returned (.tuple #[]) ∧
      Sc w' b s (p + 1) .nilIface ∧ Tf w' f y mo d h mi se un 90 o0 ∧ Below B w w' := by
  have c0 := hs.c0
  have c1 := hs.c1
  have c2 := hs.c2
  have f1 := hs.fz 1
  have f2 := ht.fz 9
  have k9 := ht.c9
  rw [byt_in hp] at hB
  have e90 : ((s[p].toNat : Int) == 90) = true := by simpa using hB
  have hi : (p : Int) < (s.size : Int) := by omega
  have HB : Hid ((s[p].toNat : Int) = 90) := hB
  clear hB
  have hne : ¬ b = f := fun e => hfb e.symm
  go_enter Tryf.func16, Tryf.ntmps16
  go_wp2
  go_quiet (fail)
  go_wp2
  go_end0
  refine ⟨rfl, (sc_next hs nq).other hfb _ _, ?_, below_set (below_set (below_drewN (Below.refl _ _) _) hB2 _ _) hB1 _ _⟩
  rw [HB.out]
  exact (Tf.other (w := w.drewN nq) ht hfb _ _).set9 90

set_option maxRecDepth 100000 in
set_option maxHeartbeats 400000 in
theorem readZone_bad (f b : Nat) (s : ByteArray) (p : Nat) (due : Bool) (y mo d h mi se un z0 o0 : Int) (w : World) (hs : Sc w b s p .nilIface) (ht : Tf w f y mo d h mi se un z0 o0)
    (hp : p < s.size) (hfb : f ≠ b) (h1 : byt s p ≠ 90) (h2 : byt s p ≠ 43) (h3 : byt s p ≠ 45) (B : Nat) (hB2 : B ≤ b) :
    Calls Tryf.prog 16 #[.pointer (some ⟨f, 0, none⟩), .pointer (some ⟨b, 0, none⟩), .bool due] w fun e w' => e = .returned (.tuple #[]) ∧
      (∃ er, ErrIs false er ∧ Sc w' b s p er) ∧ Tf w' f y mo d h mi se un z0 o0 ∧ Below B w w' := by
  have c0 := hs.c0
  have c1 := hs.c1
  have c2 := hs.c2
  rw [byt_in hp] at h1 h2 h3
  have e90 : ((s[p].toNat : Int) == 90) = false := by simpa using h1
  have e43 : ((s[p].toNat : Int) == 43) = false := by simpa using h2
  have e45 : ((s[p].toNat : Int) == 45) = false := by simpa using h3
  have hi : (p : Int) < (s.size : Int) := by omega
  clear h1 h2 h3
  go_enter Tryf.func16, Tryf.ntmps16
  go_wp2
  go_quiet (fail)
  go_wp2_with fail
  refine (outOfPlace_any b s p .nilIface _ (hs.drewN nq) hp).mono ?_
  rintro e w1 ⟨rfl, hs1, hg⟩
  have ht1 : Tf w1 f y mo d h mi se un z0 o0 := Tf.grown (w := w.drewN nq) ht hg (by simpa using hfb)
  have hb1 : Below B w w1 := (below_drewN (Below.refl B w) nq).grown hg (Nat.le_trans hB2 (Nat.le_of_lt hs.lt)) (fun k hk => by obtain rfl := Option.some.inj hk; exact hB2)
  have HS : Hid (∃ er, ErrIs false er ∧ Sc w1 b s p er) := hs1
  clear hs1 hg
  go_wp2
  go_end0
  exact ⟨rfl, HS.out, ht1, hb1⟩
end Go.Proofs.Qxb6616501aFmt
