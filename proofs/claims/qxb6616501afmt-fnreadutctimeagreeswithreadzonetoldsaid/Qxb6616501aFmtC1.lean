import Derived.Test.Qxb6616501aFmtA7
import Derived.Test.Qxb6616501aFmtR
namespace Go.Proofs.Qxb6616501aFmt
open Go.RowKit

section
variable {w : World} {f : Nat} {y mo d h mi se un zo off : Int}
theorem Tf.c0 (t : Tf w f y mo d h mi se un zo off) : w.cell? ⟨f, 0, none⟩ = some (.int .i64 y) := by rw [cell_of_row w f 0 _ 40 (0, 0) t]; rfl
theorem Tf.set0 (t : Tf w f y mo d h mi se un zo off) (z : Int) : Tf (w.setCell ⟨f, 0, none⟩ (.int .i64 z)) f z mo d h mi se un zo off := by
  unfold Tf at *
  simp [World.setCell, Array.getElem?_modify, t]
theorem Tf.c1 (t : Tf w f y mo d h mi se un zo off) : w.cell? ⟨f, 1, none⟩ = some (.int .i64 mo) := by rw [cell_of_row w f 1 _ 40 (0, 0) t]; rfl
theorem Tf.set1 (t : Tf w f y mo d h mi se un zo off) (z : Int) : Tf (w.setCell ⟨f, 1, none⟩ (.int .i64 z)) f y z d h mi se un zo off := by
  unfold Tf at *
  simp [World.setCell, Array.getElem?_modify, t]
theorem Tf.c2 (t : Tf w f y mo d h mi se un zo off) : w.cell? ⟨f, 2, none⟩ = some (.int .i64 d) := by rw [cell_of_row w f 2 _ 40 (0, 0) t]; rfl
theorem Tf.set2 (t : Tf w f y mo d h mi se un zo off) (z : Int) : Tf (w.setCell ⟨f, 2, none⟩ (.int .i64 z)) f y mo z h mi se un zo off := by
  unfold Tf at *
  simp [World.setCell, Array.getElem?_modify, t]
theorem Tf.c3 (t : Tf w f y mo d h mi se un zo off) : w.cell? ⟨f, 3, none⟩ = some (.int .i64 h) := by rw [cell_of_row w f 3 _ 40 (0, 0) t]; rfl
theorem Tf.set3 (t : Tf w f y mo d h mi se un zo off) (z : Int) : Tf (w.setCell ⟨f, 3, none⟩ (.int .i64 z)) f y mo d z mi se un zo off := by
  unfold Tf at *
  simp [World.setCell, Array.getElem?_modify, t]
theorem Tf.c4 (t : Tf w f y mo d h mi se un zo off) : w.cell? ⟨f, 4, none⟩ = some (.int .i64 mi) := by rw [cell_of_row w f 4 _ 40 (0, 0) t]; rfl
theorem Tf.set4 (t : Tf w f y mo d h mi se un zo off) (z : Int) : Tf (w.setCell ⟨f, 4, none⟩ (.int .i64 z)) f y mo d h z se un zo off := by
  unfold Tf at *
  simp [World.setCell, Array.getElem?_modify, t]
theorem Tf.c5 (t : Tf w f y mo d h mi se un zo off) : w.cell? ⟨f, 5, none⟩ = some (.int .i64 se) := by rw [cell_of_row w f 5 _ 40 (0, 0) t]; rfl
theorem Tf.set5 (t : Tf w f y mo d h mi se un zo off) (z : Int) : Tf (w.setCell ⟨f, 5, none⟩ (.int .i64 z)) f y mo d h mi z un zo off := by
  unfold Tf at *
  simp [World.setCell, Array.getElem?_modify, t]
theorem Tf.c6 (t : Tf w f y mo d h mi se un zo off) : w.cell? ⟨f, 6, none⟩ = some (.int .i64 un) := by rw [cell_of_row w f 6 _ 40 (0, 0) t]; rfl
theorem Tf.set6 (t : Tf w f y mo d h mi se un zo off) (z : Int) : Tf (w.setCell ⟨f, 6, none⟩ (.int .i64 z)) f y mo d h mi se z zo off := by
  unfold Tf at *
  simp [World.setCell, Array.getElem?_modify, t]
end

theorem number_any (b : Nat) (s : ByteArray) (p : Nat) (ok : Bool) (er : Value) (what : ByteArray) (w : World) (hs : Sc w b s p er) (he : ErrIs ok er) (hp : p ≤ s.size) (hz : s.size ≤ 1048576) (hwh : what.size ≤ 1000)
    (v : Int) (q : Nat) (ok' : Bool) (hn : numS s p ok = (v, q, ok')) :
    Calls Tryf.prog 17 #[.pointer (some ⟨b, 0, none⟩), .int .i64 2, .string what] w fun e w' => e = .returned (.int .i64 v) ∧
      (∃ er', ErrIs ok' er' ∧ Sc w' b s q er') ∧ w.grownBy w' (some b) := by
  cases ok
  · simp [numS] at hn
    obtain ⟨rfl, rfl, rfl⟩ := hn
    obtain ⟨t, x, rfl⟩ : ∃ t x, er = .iface t x := by simpa [ErrIs] using he
    exact (number_held b s p t x what w hs).mono fun e w' ⟨h1, h2⟩ => by subst h2; exact ⟨h1, ⟨_, errHeld t x, hs⟩, grown_refl _ _⟩
  · simp only [numS, if_true] at hn
    obtain rfl : er = .nilIface := by simpa [ErrIs] using he
    have := number_ok b s p what w hs hp hz hwh
    rw [hn] at this
    exact this

/-- The number, and the fields' block and the rest of memory with it. -/
theorem number_at (f b : Nat) (s : ByteArray) (p : Nat) (ok : Bool) (er : Value) (what : ByteArray) (w w0 : World) (B : Nat) (hs : Sc w b s p er) (he : ErrIs ok er) (hp : p ≤ s.size) (hz : s.size ≤ 1048576) (hwh : what.size ≤ 1000)
    {y mo d h mi se un zo off : Int} (ht : Tf w f y mo d h mi se un zo off) (hfb : f ≠ b) (hB : B ≤ b) (hb : Below B w0 w) (v : Int) (q : Nat) (ok' : Bool) (hn : numS s p ok = (v, q, ok')) :
    Calls Tryf.prog 17 #[.pointer (some ⟨b, 0, none⟩), .int .i64 2, .string what] w fun e w' => e = .returned (.int .i64 v) ∧
      (∃ er', ErrIs ok' er' ∧ Sc w' b s q er') ∧ Tf w' f y mo d h mi se un zo off ∧ Below B w0 w' := by
  refine (number_any b s p ok er what w hs he hp hz hwh v q ok' hn).mono fun e w' ⟨h1, h2, h3⟩ => ⟨h1, h2, ht.grown h3 (by simpa using hfb), ?_⟩
  exact hb.grown h3 (Nat.le_trans hB (Nat.le_of_lt hs.lt)) (fun k hk => by obtain rfl := Option.some.inj hk; exact hB)

set_option maxHeartbeats 400000 in
theorem errorsNew_any (t : ByteArray) (w : World) : Calls Tryf.prog 19 #[.string t] w fun e w' => (∃ a, e = .returned (.iface 47 (.pointer (some a)))) ∧ w.grownBy w' none := by
  go_enter Tryf.func19, Tryf.ntmps19
  go_wp2
  go_ret
  exact ⟨⟨_, rfl⟩, World.grownBy_alloc _ _ _⟩

/-- What readUTCTime leaves: where the text is one, the fields; else an error. -/
def UTC (s : ByteArray) (p : Nat) (se0 z0 o0 : Int) (w : World) (f b : Nat) : Prop :=
  (((∃ j, j < 10 ∧ dig s (p + j) = false) ∨ (dig s (p + 10) = false ∧ p + 10 = s.size) ∨ (dig s (p + 10) = true ∧ dig s (p + 11) = false) ∨ (dig s (p + 10) = true ∧ dig s (p + 11) = true ∧ p + 12 = s.size)) →
    ∃ y mo d h mi se un zo off : Int, ∃ q : Nat, ∃ er, ErrIs false er ∧ Sc w b s q er ∧ Tf w f y mo d h mi se un zo off) ∧
  (∀ K : Nat, (∀ j, j < K → dig s (p + j) = true) → ((K = 10 ∧ dig s (p + 10) = false) ∨ K = 12) → p + K < s.size →
    ∃ er, ErrIs (zoneR s true (p + K) z0 o0).2.2.2 er ∧ Sc w b s (zoneR s true (p + K) z0 o0).2.2.1 er ∧
      Tf w f (if two s p < 50 then 2000 + two s p else 1900 + two s p) (two s (p + 2)) (two s (p + 4)) (two s (p + 6)) (two s (p + 8)) (if K = 12 then two s (p + 10) else se0) (if K = 12 then 1 else 60)
        (zoneR s true (p + K) z0 o0).1 (zoneR s true (p + K) z0 o0).2.1)

theorem Read.bad {s : ByteArray} {p0 n q : Nat} (h : Read s p0 n q false) : dig s q = false ∧ ∃ j, j < n ∧ dig s (p0 + j) = false := by
  rcases h with ⟨h, _⟩ | ⟨_, h1, h2⟩
  · cases h
  · exact ⟨h1, h2⟩
theorem Read.good {s : ByteArray} {p0 n q : Nat} (h : Read s p0 n q true) : q = p0 + n ∧ ∀ j, j < n → dig s (p0 + j) = true := by
  rcases h with ⟨_, h1, h2⟩ | ⟨h, _⟩
  · exact ⟨h1, h2⟩
  · cases h
theorem Read.ok {s : ByteArray} {p0 n q : Nat} {ok : Bool} (h : Read s p0 n q ok) (hd : ∀ j, j < n → dig s (p0 + j) = true) : ok = true := by
  rcases h with ⟨h, _⟩ | ⟨_, _, j, hj, h⟩
  · exact h
  · rw [hd j hj] at h; cases h

theorem UTC.err {s : ByteArray} {p : Nat} {se0 z0 o0 : Int} {w : World} {f b q : Nat} {er : Value} {y mo d h mi se un zo off : Int} (he : ErrIs false er) (hs : Sc w b s q er) (ht : Tf w f y mo d h mi se un zo off)
    (hbad : (∃ j, j < 10 ∧ dig s (p + j) = false) ∨ (dig s (p + 10) = false ∧ p + 10 = s.size) ∨ (dig s (p + 10) = true ∧ dig s (p + 11) = false) ∨ (dig s (p + 10) = true ∧ dig s (p + 11) = true ∧ p + 12 = s.size)) : UTC s p se0 z0 o0 w f b := by
  refine ⟨fun _ => ⟨y, mo, d, h, mi, se, un, zo, off, q, er, he, hs, ht⟩, fun K hK hc hlt => ?_⟩
  exfalso
  rcases hbad with ⟨j, hj, hd⟩ | ⟨h1, h2⟩ | ⟨h1, h2⟩ | ⟨h1, h2⟩
  · rw [hK j (by omega)] at hd; cases hd
  · rcases hc with ⟨rfl, _⟩ | rfl
    · omega
    · rw [hK 10 (by omega)] at h1; cases h1
  · rcases hc with ⟨rfl, h3⟩ | rfl
    · rw [h3] at h1; cases h1
    · rw [hK 11 (by omega)] at h2; cases h2
  · rcases hc with ⟨rfl, h3⟩ | rfl
    · rw [h3] at h1; cases h1
    · omega

theorem UTC.ten {s : ByteArray} {p : Nat} {se0 z0 o0 : Int} {w : World} {f b : Nat} (hd : dig s (p + 10) = false)
    (hk : True → ∃ er, ErrIs (zoneR s true (p + 10) z0 o0).2.2.2 er ∧ Sc w b s (zoneR s true (p + 10) z0 o0).2.2.1 er ∧
      Tf w f (if two s p < 50 then 2000 + two s p else 1900 + two s p) (two s (p + 2)) (two s (p + 4)) (two s (p + 6)) (two s (p + 8)) se0 60 (zoneR s true (p + 10) z0 o0).1 (zoneR s true (p + 10) z0 o0).2.1) (hten : ∀ j, j < 10 → dig s (p + j) = true) (hend : ¬ p + 10 = s.size) : UTC s p se0 z0 o0 w f b := by
  refine ⟨fun hbad => ?_, fun K hK hc _ => ?_⟩
  · exfalso
    rcases hbad with ⟨j, hj, h⟩ | ⟨_, h2⟩ | ⟨h1, _⟩ | ⟨h1, h2⟩
    · rw [hten j hj] at h; cases h
    · exact hend h2
    · rw [hd] at h1; cases h1
    · rw [hd] at h1; cases h1
  · rcases hc with ⟨rfl, _⟩ | rfl
    · simpa using hk trivial
    · have := hK 10 (by omega)
      rw [hd] at this; cases this

theorem UTC.twelve {s : ByteArray} {p : Nat} {se0 z0 o0 : Int} {w : World} {f b : Nat} (hd : dig s (p + 10) = true) (hd' : dig s (p + 11) = true) (hend : ¬ p + 12 = s.size) (hten : ∀ j, j < 10 → dig s (p + j) = true)
    (hk : True → ∃ er, ErrIs (zoneR s true (p + 12) z0 o0).2.2.2 er ∧ Sc w b s (zoneR s true (p + 12) z0 o0).2.2.1 er ∧
      Tf w f (if two s p < 50 then 2000 + two s p else 1900 + two s p) (two s (p + 2)) (two s (p + 4)) (two s (p + 6)) (two s (p + 8)) (two s (p + 10)) 1 (zoneR s true (p + 12) z0 o0).1 (zoneR s true (p + 12) z0 o0).2.1) : UTC s p se0 z0 o0 w f b := by
  refine ⟨fun hbad => ?_, fun K hK hc _ => ?_⟩
  · exfalso
    rcases hbad with ⟨j, hj, h⟩ | ⟨h1, _⟩ | ⟨_, h2⟩ | ⟨_, _, h2⟩
    · rw [hten j hj] at h; cases h
    · rw [hd] at h1; cases h1
    · rw [hd'] at h2; cases h2
    · exact hend h2
  · rcases hc with ⟨rfl, h⟩ | rfl
    · rw [hd] at h; cases h
    · simpa using hk trivial

set_option maxRecDepth 100000 in
set_option maxHeartbeats 4000000 in
theorem readUTC_any (f b : Nat) (s : ByteArray) (p : Nat) (se0 z0 o0 : Int) (w : World) (hs : Sc w b s p .nilIface) (ht : Tf w f 0 0 0 0 0 se0 0 z0 o0)
    (hp : p ≤ s.size) (hz : s.size ≤ 1048576) (hfb : f ≠ b) (B : Nat) (hB1 : B ≤ f) (hB2 : B ≤ b) :
    Calls Tryf.prog 15 #[.pointer (some ⟨f, 0, none⟩), .pointer (some ⟨b, 0, none⟩)] w fun e w' => e = .returned (.tuple #[]) ∧ Below B w w' ∧ UTC s p se0 z0 o0 w' f b := by
  have hne : ¬ b = f := fun e => hfb e.symm
  obtain ⟨v1, q1, ok1, hn1⟩ : ∃ v q ok, numS s p true = (v, q, ok) := ⟨_, _, _, rfl⟩
  have hv1 := numS_v s p true
  have hl1 := numS_le s p true hp
  rw [hn1] at hv1 hl1
  dsimp only at hv1 hl1
  have HR1 : Hid (Read s p 2 q1 ok1 ∧ (ok1 = true → v1 = two s (p + 0))) := Read.step (Read.start s p) hn1
  have HN1 : Hid (numS s p true = (v1, q1, ok1)) := hn1
  clear hn1
  obtain ⟨v2, q2, ok2, hn2⟩ : ∃ v q ok, numS s q1 ok1 = (v, q, ok) := ⟨_, _, _, rfl⟩
  have hv2 := numS_v s q1 ok1
  have hl2 := numS_le s q1 ok1 hl1
  rw [hn2] at hv2 hl2
  dsimp only at hv2 hl2
  have HR2 : Hid (Read s p 4 q2 ok2 ∧ (ok2 = true → v2 = two s (p + 2))) := Read.step HR1.out.1 hn2
  have HN2 : Hid (numS s q1 ok1 = (v2, q2, ok2)) := hn2
  clear hn2
  obtain ⟨v3, q3, ok3, hn3⟩ : ∃ v q ok, numS s q2 ok2 = (v, q, ok) := ⟨_, _, _, rfl⟩
  have hv3 := numS_v s q2 ok2
  have hl3 := numS_le s q2 ok2 hl2
  rw [hn3] at hv3 hl3
  dsimp only at hv3 hl3
  have HR3 : Hid (Read s p 6 q3 ok3 ∧ (ok3 = true → v3 = two s (p + 4))) := Read.step HR2.out.1 hn3
  have HN3 : Hid (numS s q2 ok2 = (v3, q3, ok3)) := hn3
  clear hn3
  obtain ⟨v4, q4, ok4, hn4⟩ : ∃ v q ok, numS s q3 ok3 = (v, q, ok) := ⟨_, _, _, rfl⟩
  have hv4 := numS_v s q3 ok3
  have hl4 := numS_le s q3 ok3 hl3
  rw [hn4] at hv4 hl4
  dsimp only at hv4 hl4
  have HR4 : Hid (Read s p 8 q4 ok4 ∧ (ok4 = true → v4 = two s (p + 6))) := Read.step HR3.out.1 hn4
  have HN4 : Hid (numS s q3 ok3 = (v4, q4, ok4)) := hn4
  clear hn4
  obtain ⟨v5, q5, ok5, hn5⟩ : ∃ v q ok, numS s q4 ok4 = (v, q, ok) := ⟨_, _, _, rfl⟩
  have hv5 := numS_v s q4 ok4
  have hl5 := numS_le s q4 ok4 hl4
  rw [hn5] at hv5 hl5
  dsimp only at hv5 hl5
  have HR5 : Hid (Read s p 10 q5 ok5 ∧ (ok5 = true → v5 = two s (p + 8))) := Read.step HR4.out.1 hn5
  have HN5 : Hid (numS s q4 ok4 = (v5, q5, ok5)) := hn5
  clear hn5
  go_enter Tryf.func15, Tryf.ntmps15
  go_wp2_with fail
  refine (number_at f b s p true .nilIface _ w w B hs errNil hp hz (by decide) ht hfb hB2 (Below.refl _ _) v1 q1 ok1 HN1.out).mono ?_
  rintro e w1 ⟨rfl, ⟨er1, he1, hs1⟩, ht1, hb1⟩
  clear hs ht HN1
  have k0 := ht1.c0
  have k0f := ht1.fz 0
  have kne : ¬ f = b := hfb
  by_cases hy : v1 < 50
  · have hy' : decide (1900 + v1 < 1950) = true := by simp; omega
    go_wp2_with fail
    have hs2' : Sc ((w1.setCell ⟨f, 0, none⟩ (.int .i64 (1900 + v1))).setCell ⟨f, 0, none⟩ (.int .i64 (1900 + v1 + 100))) b s q1 er1 := (hs1.other hfb _ _).other hfb _ _
    have ht2' : Tf ((w1.setCell ⟨f, 0, none⟩ (.int .i64 (1900 + v1))).setCell ⟨f, 0, none⟩ (.int .i64 (1900 + v1 + 100))) f (1900 + v1 + 100) 0 0 0 0 se0 0 z0 o0 := (ht1.set0 _).set0 _
    have hb2' : Below B w ((w1.setCell ⟨f, 0, none⟩ (.int .i64 (1900 + v1))).setCell ⟨f, 0, none⟩ (.int .i64 (1900 + v1 + 100))) := below_set (below_set hb1 hB1 _ _) hB1 _ _
    generalize ((w1.setCell ⟨f, 0, none⟩ (.int .i64 (1900 + v1))).setCell ⟨f, 0, none⟩ (.int .i64 (1900 + v1 + 100))) = u1 at *
    have HY : Hid (∀ t : Int, v1 = t → 1900 + v1 + 100 = if t < 50 then 2000 + t else 1900 + t) := by intro t ht; subst ht; rw [if_pos (by omega)]; omega
    clear hs1 ht1 hb1 k0 k0f hy hy'
    refine (number_at f b s q1 ok1 er1 _ u1 w B hs2' he1 hl1 hz (by decide) ht2' hfb hB2 hb2' v2 q2 ok2 HN2.out).mono ?_
    rintro e w2 ⟨rfl, ⟨er2, he2, hs2⟩, ht2, hb2⟩
    clear hs2' ht2' hb2' HN2 he1
    have k1 := ht2.c1
    have k1f := ht2.fz 1
    go_wp2_with fail
    have hs3' : Sc (w2.setCell ⟨f, 1, none⟩ (.int .i64 v2)) b s q2 er2 := hs2.other hfb _ _
    have ht3' : Tf (w2.setCell ⟨f, 1, none⟩ (.int .i64 v2)) f (1900 + v1 + 100) v2 0 0 0 se0 0 z0 o0 := ht2.set1 _
    have hb3' : Below B w (w2.setCell ⟨f, 1, none⟩ (.int .i64 v2)) := below_set hb2 hB1 _ _
    generalize (w2.setCell ⟨f, 1, none⟩ (.int .i64 v2)) = u2 at *
    clear hs2 ht2 hb2 k1 k1f
    refine (number_at f b s q2 ok2 er2 _ u2 w B hs3' he2 hl2 hz (by decide) ht3' hfb hB2 hb3' v3 q3 ok3 HN3.out).mono ?_
    rintro e w3 ⟨rfl, ⟨er3, he3, hs3⟩, ht3, hb3⟩
    clear hs3' ht3' hb3' HN3 he2
    have k2 := ht3.c2
    have k2f := ht3.fz 2
    go_wp2_with fail
    have hs4' : Sc (w3.setCell ⟨f, 2, none⟩ (.int .i64 v3)) b s q3 er3 := hs3.other hfb _ _
    have ht4' : Tf (w3.setCell ⟨f, 2, none⟩ (.int .i64 v3)) f (1900 + v1 + 100) v2 v3 0 0 se0 0 z0 o0 := ht3.set2 _
    have hb4' : Below B w (w3.setCell ⟨f, 2, none⟩ (.int .i64 v3)) := below_set hb3 hB1 _ _
    generalize (w3.setCell ⟨f, 2, none⟩ (.int .i64 v3)) = u3 at *
    clear hs3 ht3 hb3 k2 k2f
    refine (number_at f b s q3 ok3 er3 _ u3 w B hs4' he3 hl3 hz (by decide) ht4' hfb hB2 hb4' v4 q4 ok4 HN4.out).mono ?_
    rintro e w4 ⟨rfl, ⟨er4, he4, hs4⟩, ht4, hb4⟩
    clear hs4' ht4' hb4' HN4 he3
    have k3 := ht4.c3
    have k3f := ht4.fz 3
    go_wp2_with fail
    have hs5' : Sc (w4.setCell ⟨f, 3, none⟩ (.int .i64 v4)) b s q4 er4 := hs4.other hfb _ _
    have ht5' : Tf (w4.setCell ⟨f, 3, none⟩ (.int .i64 v4)) f (1900 + v1 + 100) v2 v3 v4 0 se0 0 z0 o0 := ht4.set3 _
    have hb5' : Below B w (w4.setCell ⟨f, 3, none⟩ (.int .i64 v4)) := below_set hb4 hB1 _ _
    generalize (w4.setCell ⟨f, 3, none⟩ (.int .i64 v4)) = u4 at *
    clear hs4 ht4 hb4 k3 k3f
    refine (number_at f b s q4 ok4 er4 _ u4 w B hs5' he4 hl4 hz (by decide) ht5' hfb hB2 hb5' v5 q5 ok5 HN5.out).mono ?_
    rintro e w5 ⟨rfl, ⟨er5, he5, hs5⟩, ht5, hb5⟩
    clear hs5' ht5' hb5' HN5 he4
    have k4 := ht5.c4
    have k4f := ht5.fz 4
    have k6 := ht5.c6
    have k6f := ht5.fz 6
    go_wp2_with fail
    have hs6' : Sc ((w5.setCell ⟨f, 4, none⟩ (.int .i64 v5)).setCell ⟨f, 6, none⟩ (.int .i64 60)) b s q5 er5 := (hs5.other hfb _ _).other hfb _ _
    have ht6' : Tf ((w5.setCell ⟨f, 4, none⟩ (.int .i64 v5)).setCell ⟨f, 6, none⟩ (.int .i64 60)) f (1900 + v1 + 100) v2 v3 v4 v5 se0 60 z0 o0 := (ht5.set4 _).set6 _
    have hb6' : Below B w ((w5.setCell ⟨f, 4, none⟩ (.int .i64 v5)).setCell ⟨f, 6, none⟩ (.int .i64 60)) := below_set (below_set hb5 hB1 _ _) hB1 _ _
    generalize ((w5.setCell ⟨f, 4, none⟩ (.int .i64 v5)).setCell ⟨f, 6, none⟩ (.int .i64 60)) = u5 at *
    clear hs5 ht5 hb5 k4 k4f k6 k6f
    generalize HYY : (1900 + v1 + 100) = Y at *
    clear HYY
    cases ok5
    · obtain ⟨t, x, rfl⟩ : ∃ t x, er5 = .iface t x := by simpa [ErrIs] using he5
      obtain ⟨hnd, hbad⟩ := HR5.out.1.bad
      have HBAD : Hid (∃ j, j < 10 ∧ dig s (p + j) = false) := hbad
      clear hbad he5 HR1 HR2 HR3 HR4 HR5 HY
      refine (digitNext_any b s q5 _ u5 hs6').mono ?_
      rw [hnd]
      rintro e w6 ⟨rfl, n6, rfl⟩
      have k2 := hs6'.c2
      go_wp2_with fail
      go_quiet (fail)
      go_wp2_with fail
      refine (readZone_held f b s q5 true t x _ (hs6'.drewN _)).mono ?_
      rintro e w7 ⟨rfl, rfl⟩
      go_wp2
      go_end0
      exact ⟨rfl, below_drewN hb6' _, UTC.err (errHeld t x) (hs6'.drewN _) (show Tf (u5.drewN _) f Y v2 v3 v4 v5 se0 60 z0 o0 from ht6') (.inl HBAD.out)⟩
    · obtain rfl : er5 = .nilIface := by simpa [ErrIs] using he5
      obtain ⟨hq5, hten⟩ := HR5.out.1.good
      have hv5' := HR5.out.2 rfl
      have hv4' := HR4.out.2 (HR4.out.1.ok (fun j hj => hten j (by omega)))
      have hv3' := HR3.out.2 (HR3.out.1.ok (fun j hj => hten j (by omega)))
      have hv2' := HR2.out.2 (HR2.out.1.ok (fun j hj => hten j (by omega)))
      have hv1' := HR1.out.2 (HR1.out.1.ok (fun j hj => hten j (by omega)))
      have hY := HY.out _ hv1'
      rw [Nat.add_zero] at hY
      have ht6 : Tf u5 f (if two s p < 50 then 2000 + two s p else 1900 + two s p) (two s (p + 2)) (two s (p + 4)) (two s (p + 6)) (two s (p + 8)) se0 60 z0 o0 := by
        rw [← hY, ← hv2', ← hv3', ← hv4', ← hv5']; exact ht6'
      have HT : Hid (∀ j, j < 10 → dig s (p + j) = true) := hten
      have hr5 := HR5.out.1
      have HR : Hid (Read s p 10 q5 true) := hr5
      clear hten hv1' hv2' hv3' hv4' hv5' hY ht6' he5 HR1 HR2 HR3 HR4 HR5 HY hr5
      subst hq5
      have hd0 : ∀ i, u5.cell? ⟨f, i, none⟩ = u5.cell? ⟨f, i, none⟩ := fun _ => rfl
      clear hd0
      generalize hY2 : (if two s p < 50 then 2000 + two s p else 1900 + two s p) = Y2 at *
      have HY2 : Hid ((if two s p < 50 then 2000 + two s p else 1900 + two s p) = Y2) := hY2
      clear hY2
      cases hdd : dig s (p + 10)
      · refine (digitNext_any b s (p + 10) _ u5 hs6').mono ?_
        rw [hdd]
        rintro e w6 ⟨rfl, n6, rfl⟩
        have hs6 := hs6'.drewN n6
        have ht6 : Tf (u5.drewN n6) f Y2 (two s (p + 2)) (two s (p + 4)) (two s (p + 6)) (two s (p + 8)) se0 60 z0 o0 := ht6
        have hb6 : Below B w (u5.drewN n6) := below_drewN hb6' n6
        generalize u5.drewN n6 = u6 at *
        clear hs6' hb6'
        have k0 := hs6.c0
        have k1 := hs6.c1
        have k2 := hs6.c2
        by_cases hend : p + 10 = s.size
        · have hend' : ((p : Int) + 10 == (s.size : Int)) = true := by simp; omega
          go_wp2_with fail
          go_quiet (fail)
          have sN := hs6.drewN nq
          have tN : Tf ((u6).drewN nq) f Y2 (two s (p + 2)) (two s (p + 4)) (two s (p + 6)) (two s (p + 8)) se0 60 z0 o0 := ht6
          have bN : Below B w ((u6).drewN nq) := below_drewN hb6 nq
          have n2 := sN.c2
          have n2f := sN.fz 2
          go_wp2_with (go_at_call 19; refine (errorsNew_any _ _).mono ?_; rintro e wx ⟨⟨ax, rfl⟩, hgx⟩; have sX : Sc wx b s (p + 10) .nilIface := sN.grown hgx (by simp); have tX : Tf wx f Y2 (two s (p + 2)) (two s (p + 4)) (two s (p + 6)) (two s (p + 8)) se0 60 z0 o0 := tN.grown hgx (by simp); have bX : Below B w wx := bN.grown hgx (Nat.le_trans hB2 (Nat.le_of_lt sN.lt)) (by simp); have m2 := sX.c2; have m2f := sX.fz 2; clear hgx)
          refine (readZone_held f b s (p + 10) true 47 (.pointer (some ax)) _ sX.set2).mono ?_
          rintro e wy ⟨rfl, rfl⟩
          go_wp2
          go_end0
          exact ⟨rfl, below_set bX hB2 _ _, UTC.err (errHeld _ _) sX.set2 (tX.other hfb _ _) (.inr (.inl ⟨hdd, hend⟩))⟩
        · have hend' : ((p : Int) + 10 == (s.size : Int)) = false := by simp; omega
          go_wp2_with fail
          go_quiet (fail)
          go_wp2_with fail
          obtain ⟨zz, oo, qq, kk, hzz⟩ : ∃ z o q ok, zoneR s true (p + 10) z0 o0 = (z, o, q, ok) := ⟨_, _, _, _, rfl⟩
          refine (readZone_any f b s (p + 10) true Y2 (two s (p + 2)) (two s (p + 4)) (two s (p + 6)) (two s (p + 8)) se0 60 z0 o0 _ (hs6.drewN _) (show Tf (u6.drewN _) f Y2 (two s (p + 2)) (two s (p + 4)) (two s (p + 6)) (two s (p + 8)) se0 60 z0 o0 from ht6) (by omega) hz hfb B hB1 hB2 zz oo qq kk hzz).mono ?_
          rintro e w7 ⟨rfl, ⟨er7, he7, hs7⟩, ht7, hb7⟩
          have HZZ : Hid (zoneR s true (p + 10) z0 o0 = (zz, oo, qq, kk)) := hzz
          have hb8 : Below B w w7 := (below_drewN hb6 _).trans hb7
          clear hzz hb7 k0 k1 k2
          go_wp2
          go_end0
          exact ⟨rfl, hb8, UTC.ten hdd (fun _ => ⟨er7, by rw [HZZ.out]; exact ⟨he7, hs7, by rw [HY2.out]; exact ht7⟩⟩) HT.out hend⟩
      · obtain ⟨v6, q6, ok6, hn6⟩ : ∃ v q ok, numS s (p + 10) true = (v, q, ok) := ⟨_, _, _, rfl⟩
        have hl6 := numS_le s (p + 10) true hl5
        rw [hn6] at hl6
        dsimp only at hl6
        have HR6 : Hid (Read s p 12 q6 ok6 ∧ (ok6 = true → v6 = two s (p + 10))) := Read.step HR.out hn6
        have HN6 : Hid (numS s (p + 10) true = (v6, q6, ok6)) := hn6
        clear hn6 HR
        refine (digitNext_any b s (p + 10) _ u5 hs6').mono ?_
        rw [hdd]
        rintro e w6 ⟨rfl, n6, rfl⟩
        have hs6 := hs6'.drewN n6
        have ht6 : Tf (u5.drewN n6) f Y2 (two s (p + 2)) (two s (p + 4)) (two s (p + 6)) (two s (p + 8)) se0 60 z0 o0 := ht6
        have hb6 : Below B w (u5.drewN n6) := below_drewN hb6' n6
        generalize u5.drewN n6 = u6 at *
        clear hs6' hb6'
        go_wp2_with fail
        refine (number_at f b s (p + 10) true .nilIface _ u6 w B hs6 errNil hl5 hz (by decide) ht6 hfb hB2 hb6 v6 q6 ok6 HN6.out).mono ?_
        rintro e w8 ⟨rfl, ⟨er8, he8, hs8⟩, ht8, hb8⟩
        clear hs6 ht6 hb6 HN6
        have k5 := ht8.c5
        have k5f := ht8.fz 5
        have k6 := ht8.c6
        have k6f := ht8.fz 6
        have hs9 : Sc ((w8.setCell ⟨f, 5, none⟩ (.int .i64 v6)).setCell ⟨f, 6, none⟩ (.int .i64 1)) b s q6 er8 := (hs8.other hfb _ _).other hfb _ _
        have ht9 : Tf ((w8.setCell ⟨f, 5, none⟩ (.int .i64 v6)).setCell ⟨f, 6, none⟩ (.int .i64 1)) f Y2 (two s (p + 2)) (two s (p + 4)) (two s (p + 6)) (two s (p + 8)) v6 1 z0 o0 := (ht8.set5 _).set6 _
        have hb9 : Below B w ((w8.setCell ⟨f, 5, none⟩ (.int .i64 v6)).setCell ⟨f, 6, none⟩ (.int .i64 1)) := below_set (below_set hb8 hB1 _ _) hB1 _ _
        have j0 := hs9.c0
        have j1 := hs9.c1
        have j2 := hs9.c2
        cases ok6
        · obtain ⟨t, x, rfl⟩ : ∃ t x, er8 = .iface t x := by simpa [ErrIs] using he8
          obtain ⟨hnd, hbad⟩ := HR6.out.1.bad
          have hb11 : dig s (p + 11) = false := by
            obtain ⟨j, hj, hdj⟩ := hbad
            by_cases h1 : j < 10
            · rw [HT.out j h1] at hdj; cases hdj
            · by_cases h2 : j = 10
              · subst h2; rw [hdd] at hdj; cases hdj
              · obtain rfl : j = 11 := by omega
                exact hdj
          clear he8 HR6 hbad hs8 ht8 hb8
          go_wp2_with fail
          go_quiet (fail)
          go_wp2_with fail
          refine (readZone_held f b s q6 true t x _ (hs9.drewN _)).mono ?_
          rintro e w10 ⟨rfl, rfl⟩
          go_wp2
          go_end0
          exact ⟨rfl, below_drewN hb9 _, UTC.err (errHeld t x) (hs9.drewN _) (show Tf (World.drewN _ _) f Y2 (two s (p + 2)) (two s (p + 4)) (two s (p + 6)) (two s (p + 8)) v6 1 z0 o0 from ht9) (.inr (.inr (.inl ⟨hdd, hb11⟩)))⟩
        · obtain rfl : er8 = .nilIface := by simpa [ErrIs] using he8
          obtain ⟨hq6, htw⟩ := HR6.out.1.good
          have hv6 := HR6.out.2 rfl
          subst hv6
          subst hq6
          have hd11 : dig s (p + 11) = true := htw 11 (by omega)
          clear he8 HR6 hs8 ht8 hb8 htw
          by_cases hend : p + 12 = s.size
          · have hend' : ((p : Int) + 12 == (s.size : Int)) = true := by simp; omega
            go_wp2_with fail
            go_quiet (fail)
            have sN := hs9.drewN nq
            have tN : Tf (((w8.setCell ⟨f, 5, none⟩ (.int .i64 (two s (p + 10)))).setCell ⟨f, 6, none⟩ (.int .i64 1)).drewN nq) f Y2 (two s (p + 2)) (two s (p + 4)) (two s (p + 6)) (two s (p + 8)) (two s (p + 10)) 1 z0 o0 := ht9
            have bN : Below B w (((w8.setCell ⟨f, 5, none⟩ (.int .i64 (two s (p + 10)))).setCell ⟨f, 6, none⟩ (.int .i64 1)).drewN nq) := below_drewN hb9 nq
            have n2 := sN.c2
            have n2f := sN.fz 2
            go_wp2_with (go_at_call 19; refine (errorsNew_any _ _).mono ?_; rintro e wx ⟨⟨ax, rfl⟩, hgx⟩; have sX : Sc wx b s (p + 12) .nilIface := sN.grown hgx (by simp); have tX : Tf wx f Y2 (two s (p + 2)) (two s (p + 4)) (two s (p + 6)) (two s (p + 8)) (two s (p + 10)) 1 z0 o0 := tN.grown hgx (by simp); have bX : Below B w wx := bN.grown hgx (Nat.le_trans hB2 (Nat.le_of_lt sN.lt)) (by simp); have m2 := sX.c2; have m2f := sX.fz 2; clear hgx)
            refine (readZone_held f b s (p + 12) true 47 (.pointer (some ax)) _ sX.set2).mono ?_
            rintro e wy ⟨rfl, rfl⟩
            go_wp2
            go_end0
            exact ⟨rfl, below_set bX hB2 _ _, UTC.err (errHeld _ _) sX.set2 (tX.other hfb _ _) (.inr (.inr (.inr ⟨hdd, hd11, hend⟩)))⟩
          · have hend' : ((p : Int) + 12 == (s.size : Int)) = false := by simp; omega
            go_wp2_with fail
            go_quiet (fail)
            go_wp2_with fail
            obtain ⟨zz, oo, qq, kk, hzz⟩ : ∃ z o q ok, zoneR s true (p + 12) z0 o0 = (z, o, q, ok) := ⟨_, _, _, _, rfl⟩
            refine (readZone_any f b s (p + 12) true Y2 (two s (p + 2)) (two s (p + 4)) (two s (p + 6)) (two s (p + 8)) (two s (p + 10)) 1 z0 o0 _ (hs9.drewN _) (show Tf (World.drewN _ _) f Y2 (two s (p + 2)) (two s (p + 4)) (two s (p + 6)) (two s (p + 8)) (two s (p + 10)) 1 z0 o0 from ht9) (by omega) hz hfb B hB1 hB2 zz oo qq kk hzz).mono ?_
            rintro e w10 ⟨rfl, ⟨er10, he10, hs10⟩, ht10, hb10⟩
            have HZZ : Hid (zoneR s true (p + 12) z0 o0 = (zz, oo, qq, kk)) := hzz
            have hb11 : Below B w w10 := (below_drewN hb9 _).trans hb10
            clear hzz hb10 j0 j1 j2
            go_wp2
            go_end0
            exact ⟨rfl, hb11, UTC.twelve hdd hd11 hend HT.out (fun _ => ⟨er10, by rw [HZZ.out]; exact ⟨he10, hs10, by rw [HY2.out]; exact ht10⟩⟩)⟩
  · have hy' : decide (1900 + v1 < 1950) = false := by simp; omega
    go_wp2_with fail
    have hs2' : Sc (w1.setCell ⟨f, 0, none⟩ (.int .i64 (1900 + v1))) b s q1 er1 := hs1.other hfb _ _
    have ht2' : Tf (w1.setCell ⟨f, 0, none⟩ (.int .i64 (1900 + v1))) f (1900 + v1) 0 0 0 0 se0 0 z0 o0 := ht1.set0 _
    have hb2' : Below B w (w1.setCell ⟨f, 0, none⟩ (.int .i64 (1900 + v1))) := below_set hb1 hB1 _ _
    generalize (w1.setCell ⟨f, 0, none⟩ (.int .i64 (1900 + v1))) = u1 at *
    have HY : Hid (∀ t : Int, v1 = t → 1900 + v1 = if t < 50 then 2000 + t else 1900 + t) := by intro t ht; subst ht; rw [if_neg (by omega)]
    clear hs1 ht1 hb1 k0 k0f hy hy'
    refine (number_at f b s q1 ok1 er1 _ u1 w B hs2' he1 hl1 hz (by decide) ht2' hfb hB2 hb2' v2 q2 ok2 HN2.out).mono ?_
    rintro e w2 ⟨rfl, ⟨er2, he2, hs2⟩, ht2, hb2⟩
    clear hs2' ht2' hb2' HN2 he1
    have k1 := ht2.c1
    have k1f := ht2.fz 1
    go_wp2_with fail
    have hs3' : Sc (w2.setCell ⟨f, 1, none⟩ (.int .i64 v2)) b s q2 er2 := hs2.other hfb _ _
    have ht3' : Tf (w2.setCell ⟨f, 1, none⟩ (.int .i64 v2)) f (1900 + v1) v2 0 0 0 se0 0 z0 o0 := ht2.set1 _
    have hb3' : Below B w (w2.setCell ⟨f, 1, none⟩ (.int .i64 v2)) := below_set hb2 hB1 _ _
    generalize (w2.setCell ⟨f, 1, none⟩ (.int .i64 v2)) = u2 at *
    clear hs2 ht2 hb2 k1 k1f
    refine (number_at f b s q2 ok2 er2 _ u2 w B hs3' he2 hl2 hz (by decide) ht3' hfb hB2 hb3' v3 q3 ok3 HN3.out).mono ?_
    rintro e w3 ⟨rfl, ⟨er3, he3, hs3⟩, ht3, hb3⟩
    clear hs3' ht3' hb3' HN3 he2
    have k2 := ht3.c2
    have k2f := ht3.fz 2
    go_wp2_with fail
    have hs4' : Sc (w3.setCell ⟨f, 2, none⟩ (.int .i64 v3)) b s q3 er3 := hs3.other hfb _ _
    have ht4' : Tf (w3.setCell ⟨f, 2, none⟩ (.int .i64 v3)) f (1900 + v1) v2 v3 0 0 se0 0 z0 o0 := ht3.set2 _
    have hb4' : Below B w (w3.setCell ⟨f, 2, none⟩ (.int .i64 v3)) := below_set hb3 hB1 _ _
    generalize (w3.setCell ⟨f, 2, none⟩ (.int .i64 v3)) = u3 at *
    clear hs3 ht3 hb3 k2 k2f
    refine (number_at f b s q3 ok3 er3 _ u3 w B hs4' he3 hl3 hz (by decide) ht4' hfb hB2 hb4' v4 q4 ok4 HN4.out).mono ?_
    rintro e w4 ⟨rfl, ⟨er4, he4, hs4⟩, ht4, hb4⟩
    clear hs4' ht4' hb4' HN4 he3
    have k3 := ht4.c3
    have k3f := ht4.fz 3
    go_wp2_with fail
    have hs5' : Sc (w4.setCell ⟨f, 3, none⟩ (.int .i64 v4)) b s q4 er4 := hs4.other hfb _ _
    have ht5' : Tf (w4.setCell ⟨f, 3, none⟩ (.int .i64 v4)) f (1900 + v1) v2 v3 v4 0 se0 0 z0 o0 := ht4.set3 _
    have hb5' : Below B w (w4.setCell ⟨f, 3, none⟩ (.int .i64 v4)) := below_set hb4 hB1 _ _
    generalize (w4.setCell ⟨f, 3, none⟩ (.int .i64 v4)) = u4 at *
    clear hs4 ht4 hb4 k3 k3f
    refine (number_at f b s q4 ok4 er4 _ u4 w B hs5' he4 hl4 hz (by decide) ht5' hfb hB2 hb5' v5 q5 ok5 HN5.out).mono ?_
    rintro e w5 ⟨rfl, ⟨er5, he5, hs5⟩, ht5, hb5⟩
    clear hs5' ht5' hb5' HN5 he4
    have k4 := ht5.c4
    have k4f := ht5.fz 4
    have k6 := ht5.c6
    have k6f := ht5.fz 6
    go_wp2_with fail
    have hs6' : Sc ((w5.setCell ⟨f, 4, none⟩ (.int .i64 v5)).setCell ⟨f, 6, none⟩ (.int .i64 60)) b s q5 er5 := (hs5.other hfb _ _).other hfb _ _
    have ht6' : Tf ((w5.setCell ⟨f, 4, none⟩ (.int .i64 v5)).setCell ⟨f, 6, none⟩ (.int .i64 60)) f (1900 + v1) v2 v3 v4 v5 se0 60 z0 o0 := (ht5.set4 _).set6 _
    have hb6' : Below B w ((w5.setCell ⟨f, 4, none⟩ (.int .i64 v5)).setCell ⟨f, 6, none⟩ (.int .i64 60)) := below_set (below_set hb5 hB1 _ _) hB1 _ _
    generalize ((w5.setCell ⟨f, 4, none⟩ (.int .i64 v5)).setCell ⟨f, 6, none⟩ (.int .i64 60)) = u5 at *
    clear hs5 ht5 hb5 k4 k4f k6 k6f
    generalize HYY : (1900 + v1) = Y at *
    clear HYY
    cases ok5
    · obtain ⟨t, x, rfl⟩ : ∃ t x, er5 = .iface t x := by simpa [ErrIs] using he5
      obtain ⟨hnd, hbad⟩ := HR5.out.1.bad
      have HBAD : Hid (∃ j, j < 10 ∧ dig s (p + j) = false) := hbad
      clear hbad he5 HR1 HR2 HR3 HR4 HR5 HY
      refine (digitNext_any b s q5 _ u5 hs6').mono ?_
      rw [hnd]
      rintro e w6 ⟨rfl, n6, rfl⟩
      have k2 := hs6'.c2
      go_wp2_with fail
      go_quiet (fail)
      go_wp2_with fail
      refine (readZone_held f b s q5 true t x _ (hs6'.drewN _)).mono ?_
      rintro e w7 ⟨rfl, rfl⟩
      go_wp2
      go_end0
      exact ⟨rfl, below_drewN hb6' _, UTC.err (errHeld t x) (hs6'.drewN _) (show Tf (u5.drewN _) f Y v2 v3 v4 v5 se0 60 z0 o0 from ht6') (.inl HBAD.out)⟩
    · obtain rfl : er5 = .nilIface := by simpa [ErrIs] using he5
      obtain ⟨hq5, hten⟩ := HR5.out.1.good
      have hv5' := HR5.out.2 rfl
      have hv4' := HR4.out.2 (HR4.out.1.ok (fun j hj => hten j (by omega)))
      have hv3' := HR3.out.2 (HR3.out.1.ok (fun j hj => hten j (by omega)))
      have hv2' := HR2.out.2 (HR2.out.1.ok (fun j hj => hten j (by omega)))
      have hv1' := HR1.out.2 (HR1.out.1.ok (fun j hj => hten j (by omega)))
      have hY := HY.out _ hv1'
      rw [Nat.add_zero] at hY
      have ht6 : Tf u5 f (if two s p < 50 then 2000 + two s p else 1900 + two s p) (two s (p + 2)) (two s (p + 4)) (two s (p + 6)) (two s (p + 8)) se0 60 z0 o0 := by
        rw [← hY, ← hv2', ← hv3', ← hv4', ← hv5']; exact ht6'
      have HT : Hid (∀ j, j < 10 → dig s (p + j) = true) := hten
      have hr5 := HR5.out.1
      have HR : Hid (Read s p 10 q5 true) := hr5
      clear hten hv1' hv2' hv3' hv4' hv5' hY ht6' he5 HR1 HR2 HR3 HR4 HR5 HY hr5
      subst hq5
      have hd0 : ∀ i, u5.cell? ⟨f, i, none⟩ = u5.cell? ⟨f, i, none⟩ := fun _ => rfl
      clear hd0
      generalize hY2 : (if two s p < 50 then 2000 + two s p else 1900 + two s p) = Y2 at *
      have HY2 : Hid ((if two s p < 50 then 2000 + two s p else 1900 + two s p) = Y2) := hY2
      clear hY2
      cases hdd : dig s (p + 10)
      · refine (digitNext_any b s (p + 10) _ u5 hs6').mono ?_
        rw [hdd]
        rintro e w6 ⟨rfl, n6, rfl⟩
        have hs6 := hs6'.drewN n6
        have ht6 : Tf (u5.drewN n6) f Y2 (two s (p + 2)) (two s (p + 4)) (two s (p + 6)) (two s (p + 8)) se0 60 z0 o0 := ht6
        have hb6 : Below B w (u5.drewN n6) := below_drewN hb6' n6
        generalize u5.drewN n6 = u6 at *
        clear hs6' hb6'
        have k0 := hs6.c0
        have k1 := hs6.c1
        have k2 := hs6.c2
        by_cases hend : p + 10 = s.size
        · have hend' : ((p : Int) + 10 == (s.size : Int)) = true := by simp; omega
          go_wp2_with fail
          go_quiet (fail)
          have sN := hs6.drewN nq
          have tN : Tf ((u6).drewN nq) f Y2 (two s (p + 2)) (two s (p + 4)) (two s (p + 6)) (two s (p + 8)) se0 60 z0 o0 := ht6
          have bN : Below B w ((u6).drewN nq) := below_drewN hb6 nq
          have n2 := sN.c2
          have n2f := sN.fz 2
          go_wp2_with (go_at_call 19; refine (errorsNew_any _ _).mono ?_; rintro e wx ⟨⟨ax, rfl⟩, hgx⟩; have sX : Sc wx b s (p + 10) .nilIface := sN.grown hgx (by simp); have tX : Tf wx f Y2 (two s (p + 2)) (two s (p + 4)) (two s (p + 6)) (two s (p + 8)) se0 60 z0 o0 := tN.grown hgx (by simp); have bX : Below B w wx := bN.grown hgx (Nat.le_trans hB2 (Nat.le_of_lt sN.lt)) (by simp); have m2 := sX.c2; have m2f := sX.fz 2; clear hgx)
          refine (readZone_held f b s (p + 10) true 47 (.pointer (some ax)) _ sX.set2).mono ?_
          rintro e wy ⟨rfl, rfl⟩
          go_wp2
          go_end0
          exact ⟨rfl, below_set bX hB2 _ _, UTC.err (errHeld _ _) sX.set2 (tX.other hfb _ _) (.inr (.inl ⟨hdd, hend⟩))⟩
        · have hend' : ((p : Int) + 10 == (s.size : Int)) = false := by simp; omega
          go_wp2_with fail
          go_quiet (fail)
          go_wp2_with fail
          obtain ⟨zz, oo, qq, kk, hzz⟩ : ∃ z o q ok, zoneR s true (p + 10) z0 o0 = (z, o, q, ok) := ⟨_, _, _, _, rfl⟩
          refine (readZone_any f b s (p + 10) true Y2 (two s (p + 2)) (two s (p + 4)) (two s (p + 6)) (two s (p + 8)) se0 60 z0 o0 _ (hs6.drewN _) (show Tf (u6.drewN _) f Y2 (two s (p + 2)) (two s (p + 4)) (two s (p + 6)) (two s (p + 8)) se0 60 z0 o0 from ht6) (by omega) hz hfb B hB1 hB2 zz oo qq kk hzz).mono ?_
          rintro e w7 ⟨rfl, ⟨er7, he7, hs7⟩, ht7, hb7⟩
          have HZZ : Hid (zoneR s true (p + 10) z0 o0 = (zz, oo, qq, kk)) := hzz
          have hb8 : Below B w w7 := (below_drewN hb6 _).trans hb7
          clear hzz hb7 k0 k1 k2
          go_wp2
          go_end0
          exact ⟨rfl, hb8, UTC.ten hdd (fun _ => ⟨er7, by rw [HZZ.out]; exact ⟨he7, hs7, by rw [HY2.out]; exact ht7⟩⟩) HT.out hend⟩
      · obtain ⟨v6, q6, ok6, hn6⟩ : ∃ v q ok, numS s (p + 10) true = (v, q, ok) := ⟨_, _, _, rfl⟩
        have hl6 := numS_le s (p + 10) true hl5
        rw [hn6] at hl6
        dsimp only at hl6
        have HR6 : Hid (Read s p 12 q6 ok6 ∧ (ok6 = true → v6 = two s (p + 10))) := Read.step HR.out hn6
        have HN6 : Hid (numS s (p + 10) true = (v6, q6, ok6)) := hn6
        clear hn6 HR
        refine (digitNext_any b s (p + 10) _ u5 hs6').mono ?_
        rw [hdd]
        rintro e w6 ⟨rfl, n6, rfl⟩
        have hs6 := hs6'.drewN n6
        have ht6 : Tf (u5.drewN n6) f Y2 (two s (p + 2)) (two s (p + 4)) (two s (p + 6)) (two s (p + 8)) se0 60 z0 o0 := ht6
        have hb6 : Below B w (u5.drewN n6) := below_drewN hb6' n6
        generalize u5.drewN n6 = u6 at *
        clear hs6' hb6'
        go_wp2_with fail
        refine (number_at f b s (p + 10) true .nilIface _ u6 w B hs6 errNil hl5 hz (by decide) ht6 hfb hB2 hb6 v6 q6 ok6 HN6.out).mono ?_
        rintro e w8 ⟨rfl, ⟨er8, he8, hs8⟩, ht8, hb8⟩
        clear hs6 ht6 hb6 HN6
        have k5 := ht8.c5
        have k5f := ht8.fz 5
        have k6 := ht8.c6
        have k6f := ht8.fz 6
        have hs9 : Sc ((w8.setCell ⟨f, 5, none⟩ (.int .i64 v6)).setCell ⟨f, 6, none⟩ (.int .i64 1)) b s q6 er8 := (hs8.other hfb _ _).other hfb _ _
        have ht9 : Tf ((w8.setCell ⟨f, 5, none⟩ (.int .i64 v6)).setCell ⟨f, 6, none⟩ (.int .i64 1)) f Y2 (two s (p + 2)) (two s (p + 4)) (two s (p + 6)) (two s (p + 8)) v6 1 z0 o0 := (ht8.set5 _).set6 _
        have hb9 : Below B w ((w8.setCell ⟨f, 5, none⟩ (.int .i64 v6)).setCell ⟨f, 6, none⟩ (.int .i64 1)) := below_set (below_set hb8 hB1 _ _) hB1 _ _
        have j0 := hs9.c0
        have j1 := hs9.c1
        have j2 := hs9.c2
        cases ok6
        · obtain ⟨t, x, rfl⟩ : ∃ t x, er8 = .iface t x := by simpa [ErrIs] using he8
          obtain ⟨hnd, hbad⟩ := HR6.out.1.bad
          have hb11 : dig s (p + 11) = false := by
            obtain ⟨j, hj, hdj⟩ := hbad
            by_cases h1 : j < 10
            · rw [HT.out j h1] at hdj; cases hdj
            · by_cases h2 : j = 10
              · subst h2; rw [hdd] at hdj; cases hdj
              · obtain rfl : j = 11 := by omega
                exact hdj
          clear he8 HR6 hbad hs8 ht8 hb8
          go_wp2_with fail
          go_quiet (fail)
          go_wp2_with fail
          refine (readZone_held f b s q6 true t x _ (hs9.drewN _)).mono ?_
          rintro e w10 ⟨rfl, rfl⟩
          go_wp2
          go_end0
          exact ⟨rfl, below_drewN hb9 _, UTC.err (errHeld t x) (hs9.drewN _) (show Tf (World.drewN _ _) f Y2 (two s (p + 2)) (two s (p + 4)) (two s (p + 6)) (two s (p + 8)) v6 1 z0 o0 from ht9) (.inr (.inr (.inl ⟨hdd, hb11⟩)))⟩
        · obtain rfl : er8 = .nilIface := by simpa [ErrIs] using he8
          obtain ⟨hq6, htw⟩ := HR6.out.1.good
          have hv6 := HR6.out.2 rfl
          subst hv6
          subst hq6
          have hd11 : dig s (p + 11) = true := htw 11 (by omega)
          clear he8 HR6 hs8 ht8 hb8 htw
          by_cases hend : p + 12 = s.size
          · have hend' : ((p : Int) + 12 == (s.size : Int)) = true := by simp; omega
            go_wp2_with fail
            go_quiet (fail)
            have sN := hs9.drewN nq
            have tN : Tf (((w8.setCell ⟨f, 5, none⟩ (.int .i64 (two s (p + 10)))).setCell ⟨f, 6, none⟩ (.int .i64 1)).drewN nq) f Y2 (two s (p + 2)) (two s (p + 4)) (two s (p + 6)) (two s (p + 8)) (two s (p + 10)) 1 z0 o0 := ht9
            have bN : Below B w (((w8.setCell ⟨f, 5, none⟩ (.int .i64 (two s (p + 10)))).setCell ⟨f, 6, none⟩ (.int .i64 1)).drewN nq) := below_drewN hb9 nq
            have n2 := sN.c2
            have n2f := sN.fz 2
            go_wp2_with (go_at_call 19; refine (errorsNew_any _ _).mono ?_; rintro e wx ⟨⟨ax, rfl⟩, hgx⟩; have sX : Sc wx b s (p + 12) .nilIface := sN.grown hgx (by simp); have tX : Tf wx f Y2 (two s (p + 2)) (two s (p + 4)) (two s (p + 6)) (two s (p + 8)) (two s (p + 10)) 1 z0 o0 := tN.grown hgx (by simp); have bX : Below B w wx := bN.grown hgx (Nat.le_trans hB2 (Nat.le_of_lt sN.lt)) (by simp); have m2 := sX.c2; have m2f := sX.fz 2; clear hgx)
            refine (readZone_held f b s (p + 12) true 47 (.pointer (some ax)) _ sX.set2).mono ?_
            rintro e wy ⟨rfl, rfl⟩
            go_wp2
            go_end0
            exact ⟨rfl, below_set bX hB2 _ _, UTC.err (errHeld _ _) sX.set2 (tX.other hfb _ _) (.inr (.inr (.inr ⟨hdd, hd11, hend⟩)))⟩
          · have hend' : ((p : Int) + 12 == (s.size : Int)) = false := by simp; omega
            go_wp2_with fail
            go_quiet (fail)
            go_wp2_with fail
            obtain ⟨zz, oo, qq, kk, hzz⟩ : ∃ z o q ok, zoneR s true (p + 12) z0 o0 = (z, o, q, ok) := ⟨_, _, _, _, rfl⟩
            refine (readZone_any f b s (p + 12) true Y2 (two s (p + 2)) (two s (p + 4)) (two s (p + 6)) (two s (p + 8)) (two s (p + 10)) 1 z0 o0 _ (hs9.drewN _) (show Tf (World.drewN _ _) f Y2 (two s (p + 2)) (two s (p + 4)) (two s (p + 6)) (two s (p + 8)) (two s (p + 10)) 1 z0 o0 from ht9) (by omega) hz hfb B hB1 hB2 zz oo qq kk hzz).mono ?_
            rintro e w10 ⟨rfl, ⟨er10, he10, hs10⟩, ht10, hb10⟩
            have HZZ : Hid (zoneR s true (p + 12) z0 o0 = (zz, oo, qq, kk)) := hzz
            have hb11 : Below B w w10 := (below_drewN hb9 _).trans hb10
            clear hzz hb10 j0 j1 j2
            go_wp2
            go_end0
            exact ⟨rfl, hb11, UTC.twelve hdd hd11 hend HT.out (fun _ => ⟨er10, by rw [HZZ.out]; exact ⟨he10, hs10, by rw [HY2.out]; exact ht10⟩⟩)⟩
end Go.Proofs.Qxb6616501aFmt
