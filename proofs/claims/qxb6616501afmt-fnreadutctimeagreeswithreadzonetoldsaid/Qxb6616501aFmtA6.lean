import Derived.Test.Qxb6616501aFmtA5p
import Derived.Test.Qxb6616501aFmtA5m
namespace Go.Proofs.Qxb6616501aFmt
open Go.RowKit

theorem readZone_any (f b : Nat) (s : ByteArray) (p : Nat) (due : Bool) (y mo d hh mi se un z0 o0 : Int) (w : World) (hs : Sc w b s p .nilIface) (ht : Tf w f y mo d hh mi se un z0 o0)
    (hp : p < s.size) (hz : s.size ≤ 1048576) (hfb : f ≠ b) (B : Nat) (hB1 : B ≤ f) (hB2 : B ≤ b) (z o : Int) (q : Nat) (ok : Bool) (hR : zoneR s due p z0 o0 = (z, o, q, ok)) :
    Calls Tryf.prog 16 #[.pointer (some ⟨f, 0, none⟩), .pointer (some ⟨b, 0, none⟩), .bool due] w fun e w' => e = .returned (.tuple #[]) ∧
      (∃ er, ErrIs ok er ∧ Sc w' b s q er) ∧ Tf w' f y mo d hh mi se un z o ∧ Below B w w' := by
  unfold zoneR at hR
  by_cases h1 : byt s p = 90
  · rw [if_pos h1] at hR
    simp only [Prod.mk.injEq] at hR
    obtain ⟨rfl, rfl, rfl, rfl⟩ := hR
    refine (readZone_Z f b s p due y mo d hh mi se un z0 o0 w hs ht hp hz hfb h1 B hB1 hB2).mono fun e w' ⟨a1, a2, a3, a4⟩ => ⟨a1, ⟨_, errNil, a2⟩, a3, a4⟩
  rw [if_neg h1] at hR
  by_cases h2 : byt s p = 43
  · rw [if_pos h2] at hR
    simp only [Prod.mk.injEq] at hR
    obtain ⟨rfl, rfl, rfl, rfl⟩ := hR
    exact readZone_plus f b s p due y mo d hh mi se un z0 o0 w hs ht hp hz hfb B hB1 hB2 h2 _ _ _ _ rfl
  rw [if_neg h2] at hR
  by_cases h3 : byt s p = 45
  · rw [if_pos h3] at hR
    simp only [Prod.mk.injEq] at hR
    obtain ⟨rfl, rfl, rfl, rfl⟩ := hR
    exact readZone_minus f b s p due y mo d hh mi se un z0 o0 w hs ht hp hz hfb B hB1 hB2 h3 _ _ _ _ rfl
  rw [if_neg h3] at hR
  simp only [Prod.mk.injEq] at hR
  obtain ⟨rfl, rfl, rfl, rfl⟩ := hR
  exact readZone_bad f b s p due y mo d hh mi se un z0 o0 w hs ht hp hfb h1 h2 h3 B hB2

theorem results_tmp4 {fn : Func} {t u v x : Tmp} (h : fn.results = #[.tmp t, .tmp u, .tmp v, .tmp x]) (tmps : Array Value) (P : Program) (w : World) :
    (results fn tmps).run P w = .ok (.tuple #[tmps.getD t undef, tmps.getD u undef, tmps.getD v undef, tmps.getD x undef]) w := by
  simp [results, h]

theorem start_sc (w : World) (s : ByteArray) (p : Nat) (o : Obj) : Sc ((w.alloc (.cells #[.string s, .int .i64 p, .nilIface] 37)).alloc o) w.heap.size s p .nilIface := by
  unfold Sc
  rw [Below.heap_alloc _ _ _ (by simp)]
  exact heap_alloc_new w _
theorem start_tf (w : World) (o : Obj) (y mo d h mi se un zo off : Int) : Tf ((w.alloc o).alloc (.cells #[.int .i64 y, .int .i64 mo, .int .i64 d, .int .i64 h, .int .i64 mi, .int .i64 se, .int .i64 un, .string ⟨#[]⟩, .int .u8 0, .int .u8 zo, .int .i64 off] 40)) (w.heap.size + 1) y mo d h mi se un zo off := by
  unfold Tf
  have := heap_alloc_new (w.alloc o) (.cells #[.int .i64 y, .int .i64 mo, .int .i64 d, .int .i64 h, .int .i64 mi, .int .i64 se, .int .i64 un, .string ⟨#[]⟩, .int .u8 0, .int .u8 zo, .int .i64 off] 40)
  rwa [World.size_alloc] at this
theorem start_below (w : World) (o o' : Obj) : Below w.heap.size w ((w.alloc o).alloc o') := ((Below.refl _ _).alloc (Nat.le_refl _) _).alloc (by simp) _

set_option maxRecDepth 100000 in
set_option maxHeartbeats 1000000 in
theorem zzReadZone (s : ByteArray) (p : Nat) (due : Bool) (z0 o0 : Int) (w : World) (hp : p < s.size) (hz : s.size ≤ 1048576) (z o : Int) (q : Nat) (ok : Bool) (hR : zoneR s due p z0 o0 = (z, o, q, ok)) :
    Calls Tryf.prog 10 #[.string s, .int .i64 p, .bool due, .int .u8 z0, .int .i64 o0] w fun e w' =>
      (∃ er, ErrIs ok er ∧ e = .returned (.tuple #[.int .u8 z, .int .i64 o, .int .i64 q, er])) ∧ Below w.heap.size w w' := by
  have HR : Hid (zoneR s due p z0 o0 = (z, o, q, ok)) := hR
  clear hR
  go_enter Tryf.func10, Tryf.ntmps10
  go_wp2_with fail
  refine (readZone_any (w.heap.size + 1) w.heap.size s p due 0 0 0 0 0 0 0 z0 o0 _ (start_sc w s p _) (start_tf w _ 0 0 0 0 0 0 0 z0 o0) hp hz (by omega) w.heap.size (by omega) (Nat.le_refl _) z o q ok HR.out).mono ?_
  rintro e w1 ⟨rfl, ⟨er, her, hs1⟩, ht1, hb1⟩
  have hb2 : Below w.heap.size w w1 := (start_below w _ _).trans hb1
  have c1 := hs1.c1
  have c2 := hs1.c2
  have k9 := ht1.c9
  have k10 := ht1.c10
  clear hb1
  go_wp2
  go_quiet (fail)
  go_wp2
  (try simp only [Exit.inBlock, Exit.then]); refine bodyPost_ret (results_tmp4 rfl _ _ _) rfl ?_
  exact ⟨⟨er, her, rfl⟩, below_drewN hb2 _⟩
end Go.Proofs.Qxb6616501aFmt
