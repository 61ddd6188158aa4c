import Derived.Test.Qxb6616501aFmtC1
namespace Go.Proofs.Qxb6616501aFmt
open Go.RowKit

theorem results_tmp11 {fn : Func} {t0 t1 t2 t3 t4 t5 t6 t7 t8 t9 t10 : Tmp} (h : fn.results = #[.tmp t0, .tmp t1, .tmp t2, .tmp t3, .tmp t4, .tmp t5, .tmp t6, .tmp t7, .tmp t8, .tmp t9, .tmp t10]) (tmps : Array Value) (P : Program) (w : World) :
    (results fn tmps).run P w = .ok (.tuple #[tmps.getD t0 undef, tmps.getD t1 undef, tmps.getD t2 undef, tmps.getD t3 undef, tmps.getD t4 undef, tmps.getD t5 undef, tmps.getD t6 undef, tmps.getD t7 undef, tmps.getD t8 undef, tmps.getD t9 undef, tmps.getD t10 undef]) w := by
  simp [results, h]

/-- What the shim's caller gets of the two blocks. -/
def Out (e : Ending) (y mo d h mi se un zo off : Int) (q : Nat) (er : Value) : Prop :=
  e = .returned (.tuple #[.int .i64 y, .int .i64 mo, .int .i64 d, .int .i64 h, .int .i64 mi, .int .i64 se, .int .i64 un, .int .u8 zo, .int .i64 off, .int .i64 q, er])

def Bad (s : ByteArray) (p : Nat) : Prop :=
  (∃ j, j < 10 ∧ dig s (p + j) = false) ∨ (dig s (p + 10) = false ∧ p + 10 = s.size) ∨ (dig s (p + 10) = true ∧ dig s (p + 11) = false) ∨ (dig s (p + 10) = true ∧ dig s (p + 11) = true ∧ p + 12 = s.size)

set_option maxRecDepth 100000 in
set_option maxHeartbeats 2000000 in
theorem zzUTC_err (s : ByteArray) (p : Nat) (se0 z0 o0 : Int) (w : World) (hp : p ≤ s.size) (hz : s.size ≤ 1048576) (hbad : Bad s p) :
    Calls Tryf.prog 8 #[.string s, .int .i64 p, .int .i64 se0, .int .u8 z0, .int .i64 o0] w fun e w' => (∃ y mo d h mi se un zo off : Int, ∃ q : Nat, ∃ er, ErrIs false er ∧ Out e y mo d h mi se un zo off q er) ∧ Below w.heap.size w w' := by
  have HB : Hid (Bad s p) := hbad
  clear hbad
  go_enter Tryf.func8, Tryf.ntmps8
  go_wp2_with fail
  refine (readUTC_any (w.heap.size + 1) w.heap.size s p se0 z0 o0 _ (start_sc w s p _) (start_tf w _ 0 0 0 0 0 se0 0 z0 o0) hp hz (by omega) w.heap.size (by omega) (Nat.le_refl _)).mono ?_
  rintro e w1 ⟨rfl, hb1, hu⟩
  have hb2 : Below w.heap.size w w1 := (start_below w _ _).trans hb1
  obtain ⟨y, mo, d, h, mi, se, un, zo, off, q, er, her, hs1, ht1⟩ := hu.1 HB.out
  have c1 := hs1.c1
  have c2 := hs1.c2
  have k0 := ht1.c0
  have k1 := ht1.c1
  have k2 := ht1.c2
  have k3 := ht1.c3
  have k4 := ht1.c4
  have k5 := ht1.c5
  have k6 := ht1.c6
  have k9 := ht1.c9
  have k10 := ht1.c10
  clear hb1 hu
  go_wp2
  go_quiet (fail)
  go_wp2
  (try simp only [Exit.inBlock, Exit.then]); refine bodyPost_ret (results_tmp11 rfl _ _ _) rfl ?_
  exact ⟨⟨y, mo, d, h, mi, se, un, zo, off, q, er, her, rfl⟩, below_drewN hb2 _⟩

set_option maxRecDepth 100000 in
set_option maxHeartbeats 2000000 in
theorem zzUTC_ok (s : ByteArray) (p : Nat) (se0 z0 o0 : Int) (w : World) (hp : p ≤ s.size) (hz : s.size ≤ 1048576) (K : Nat) (hK : ∀ j, j < K → dig s (p + j) = true) (hc : (K = 10 ∧ dig s (p + 10) = false) ∨ K = 12) (hlt : p + K < s.size) (Y S U z o : Int) (q : Nat) (ok : Bool) (hR : zoneR s true (p + K) z0 o0 = (z, o, q, ok)) (hY : (if two s p < 50 then 2000 + two s p else 1900 + two s p) = Y) (hS : (if K = 12 then two s (p + 10) else se0) = S) (hU : (if K = 12 then 1 else 60) = U) :
    Calls Tryf.prog 8 #[.string s, .int .i64 p, .int .i64 se0, .int .u8 z0, .int .i64 o0] w fun e w' => (∃ er, ErrIs ok er ∧ Out e Y (two s (p + 2)) (two s (p + 4)) (two s (p + 6)) (two s (p + 8)) S U z o q er) ∧ Below w.heap.size w w' := by
  have HK : Hid (∀ j, j < K → dig s (p + j) = true) := hK
  have HC : Hid ((K = 10 ∧ dig s (p + 10) = false) ∨ K = 12) := hc
  have HR : Hid (zoneR s true (p + K) z0 o0 = (z, o, q, ok)) := hR
  have HY : Hid ((if two s p < 50 then 2000 + two s p else 1900 + two s p) = Y) := hY
  have HS : Hid ((if K = 12 then two s (p + 10) else se0) = S) := hS
  have HU : Hid ((if K = 12 then 1 else 60) = U) := hU
  clear hK hc hR hY hS hU
  go_enter Tryf.func8, Tryf.ntmps8
  go_wp2_with fail
  refine (readUTC_any (w.heap.size + 1) w.heap.size s p se0 z0 o0 _ (start_sc w s p _) (start_tf w _ 0 0 0 0 0 se0 0 z0 o0) hp hz (by omega) w.heap.size (by omega) (Nat.le_refl _)).mono ?_
  rintro e w1 ⟨rfl, hb1, hu⟩
  have hb2 : Below w.heap.size w w1 := (start_below w _ _).trans hb1
  obtain ⟨er, her, hs1, ht1⟩ := hu.2 K HK.out HC.out hlt
  rw [HR.out] at her hs1 ht1
  rw [HY.out, HS.out, HU.out] at ht1
  dsimp only at her hs1 ht1
  have c1 := hs1.c1
  have c2 := hs1.c2
  have k0 := ht1.c0
  have k1 := ht1.c1
  have k2 := ht1.c2
  have k3 := ht1.c3
  have k4 := ht1.c4
  have k5 := ht1.c5
  have k6 := ht1.c6
  have k9 := ht1.c9
  have k10 := ht1.c10
  clear hb1 hu
  go_wp2
  go_quiet (fail)
  go_wp2
  (try simp only [Exit.inBlock, Exit.then]); refine bodyPost_ret (results_tmp11 rfl _ _ _) rfl ?_
  exact ⟨⟨er, her, rfl⟩, below_drewN hb2 _⟩

end Go.Proofs.Qxb6616501aFmt
