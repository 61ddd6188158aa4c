import Derived.Test.Qxb6616745aS2
namespace Go.Proofs.Qxb6616745a
open Go.RowKit

/-- The comparison that the sort is given. -/
abbrev cmpF : Value := .func (.func 32) #[] #[]
/-- The slots that a row may lead to, with their keys; the row itself is none of them. -/
def Keys (w : World) (g : Nat) (K : Nat → Int) (P : Nat → Prop) : Prop := ∀ b, P b → b ≠ g ∧ ∃ i u, Sl w b i u (K b)
theorem Keys.grown {w w' : World} {g : Nat} {K : Nat → Int} {P : Nat → Prop} (h : Keys w g K P) (hg : w.grownBy w' (some g)) : Keys w' g K P := by
  intro b hb
  obtain ⟨h1, i, u, h2⟩ := h b hb
  exact ⟨h1, i, u, h2.grown hg (by simpa using h1)⟩
theorem Keys.drew {w : World} {g : Nat} {K : Nat → Int} {P : Nat → Prop} (h : Keys w g K P) : Keys w.drew g K P := h
theorem Keys.drewN {w : World} {g : Nat} {K : Nat → Int} {P : Nat → Prop} (h : Keys w g K P) (n : Nat) : Keys (w.drewN n) g K P := h

theorem cmpv_neg {x y : Int} : decide (cmpv x y < 0) = decide (x < y) := by
  unfold cmpv
  by_cases h : x < y
  · simp [h]
  · rw [if_neg h]
    split <;> simp [h]

/-- The comparison of two elements of a row. -/
theorem cmp_at {w : World} {g : Nat} {K : Nat → Int} {P : Nat → Prop} (hk : Keys w g K P) (x y : Nat) (hx : P x) (hy : P y) :
    Calls Try.prog 32 #[pv x, pv y] w fun e w' => e = .returned (.int .i64 (cmpv (K x) (K y))) ∧ w.grownBy w' none := by
  obtain ⟨_, i, u, h1⟩ := hk x hx
  obtain ⟨_, i', u', h2⟩ := hk y hy
  exact byLast_any x y i u i' u' (K x) (K y) w h1 h2

/-- The comparison of the elements at two places of a row. -/
theorem cmp_two {w : World} {g cap n : Nat} {K : Nat → Int} {P : Nat → Prop} {F : Nat → Nat} (hk : Keys w g K P) (hr : Rw w g cap n F) (p q x y : Nat) (hp : p < n) (hq : q < n) (ex : F p = x) (ey : F q = y) (hx : P x) (hy : P y) :
    Calls Try.prog 32 #[pv x, pv y] w fun e w' => e = .returned (.int .i64 (cmpv (K x) (K y))) ∧ w'.cell? ⟨g, p, none⟩ = some (pv x) ∧ w'.cell? ⟨g, q, none⟩ = some (pv y) ∧ Rw w' g cap n F ∧ w.grownBy w' (some g) := by
  refine (cmp_at hk x y hx hy).mono ?_
  rintro e w1 ⟨rfl, hg⟩
  have hr1 := hr.grown hg (by simp)
  have c1 := hr1.cell hp
  have c2 := hr1.cell hq
  rw [ex] at c1
  rw [ey] at c2
  exact ⟨rfl, c1, c2, hr1, grown_none hg _⟩

theorem rot_step (f : Nat → Nat) (i k : Nat) (h2 : k + 1 ≤ i) : upd (upd (rot f (k + 1) i (i + 1)) (k + 1) (f k)) k (f i) = rot f k i (i + 1) := by
  funext x
  unfold upd rot
  repeat' split
  all_goals first | rfl | (exfalso; omega) | (congr 1; omega)

set_option maxRecDepth 100000 in
set_option maxHeartbeats 2000000 in
theorem insertion_any (g cap n a b : Nat) (K : Nat → Int) (P : Nat → Prop) (f : Nat → Nat) (w : World) (hr : Rw w g cap n f) (hk : Keys w g K P) (hp : ∀ i, i < n → P (f i)) (hinc : ∀ i j, a ≤ i → i < j → j < b → f i < f j) (hab : a < b) (hbn : b ≤ n) (hn : n ≤ 4096) :
    Calls Try.prog 35 #[.slice (some ⟨g, 0, none⟩) n cap, .int .i64 a, .int .i64 b, cmpF] w fun e w' => e = .returned (.tuple #[]) ∧ (∃ f', Rw w' g cap n f' ∧ Sorted K f' a b ∧ Same f f' a b) ∧ w.grownBy w' (some g) := by
  go_enter Try.func35, Try.ntmps35
  go_wp2
  go_loopw [8] (fun vi wr => ∃ i : Nat, a + 1 ≤ i ∧ i ≤ b ∧ vi = .int .i64 i ∧ (∃ f', Rw wr g cap n f' ∧ Sorted K f' a i ∧ Same f f' a i) ∧ w.grownBy wr (some g)) (fun vi _ => ((b : Int) - intOf vi).toNat)
  case atStart => exact ⟨a + 1, Nat.le_refl _, by omega, by go_num, ⟨f, hr, fun i j _ _ _ => by omega, Same.refl _ _ _⟩, grown_refl _ _⟩
  case round =>
    obtain ⟨i, hai, hib, rfl, ⟨f', hrr, hso, hsa⟩, hg⟩ := hrel
    have HSO : Hid (Sorted K f' a i) := hso
    have HSA : Hid (Same f f' a i) := hsa
    have HG : Hid (w.grownBy wr (some g)) := hg
    have HK : Hid (Keys wr g K P) := hk.grown hg
    have HINC : Hid (∀ i j, a ≤ i → i < j → j < b → f i < f j) := hinc
    have HP : Hid (∀ i, i < n → P (f i)) := hp
    have HKW : Hid (Keys w g K P) := hk
    clear hso hsa hg hk hinc hp
    by_cases hlt : i < b
    · have hlt' : (i : Int) < (b : Int) := by omega
      go_wp2
      go_loopw [9] (fun vj wj => ∃ j : Nat, a ≤ j ∧ j ≤ i ∧ vj = .int .i64 j ∧ Rw wj g cap n (rot f' j i (i + 1)) ∧ (j < i → Lt K (f' i) (f' j)) ∧ w.grownBy wj (some g)) (fun vj _ => (intOf vj).toNat)
      case atStart => exact ⟨i, by omega, Nat.le_refl _, rfl, hrr.congr (fun x _ => by rw [rot_triv (.inl ⟨rfl, by omega⟩)]), fun h => by omega, HG.out⟩
      case round =>
        obtain ⟨j, haj, hji, rfl, hrj, hlj, hgj⟩ := hrel
        have HLJ : Hid (j < i → Lt K (f' i) (f' j)) := hlj
        have HGJ : Hid (w.grownBy wr (some g)) := hgj
        have HRJ : Hid (Rw wr g cap n (rot f' j i (i + 1))) := hrj
        have HKJ : Hid (Keys wr g K P) := HKW.out.grown hgj
        clear hlj hgj
        by_cases hja : a < j
        · obtain ⟨k, rfl⟩ : ∃ k, j = k + 1 := ⟨j - 1, by omega⟩
          have cj := hrj.cell (i := k + 1) (by omega)
          have ck := hrj.cell (i := k) (by omega)
          have EX : Hid (rot f' (k + 1) i (i + 1) (k + 1) = f' i) := by show _ = _; rw [rot_left (by omega) (by omega), show k + 1 + (i - (k + 1)) = i by omega]
          have EY : Hid (rot f' (k + 1) i (i + 1) k = f' k) := rot_out (by omega) (by omega)
          rw [EX.out] at cj
          rw [EY.out] at ck
          clear hrj
          have hjn : (k : Int) + 1 < (n : Int) := by omega
          have hjn' : (k : Int) < (n : Int) := by omega
          have hj0 : (0 : Int) ≤ (k : Int) + 1 := by omega
          have hja' : (a : Int) < (k : Int) + 1 := by omega
          have hwk : IntKind.i64.wrap (k : Int) = k := IntWalk.i64_in _ (by omega)
          have HJI : Hid (k + 1 ≤ i) := hji
          clear hji
          go_wp2
          have HXY : Hid (f' k < f' i) := by
            obtain ⟨l, k1, k2, ek⟩ := HSA.out.2.1 k (by omega) (by have := HJI.out; omega)
            have e2 := HSA.out.1 i (by omega)
            show _ < _
            rw [ek, e2]
            exact HINC.out l i k1 k2 hlt
          have hx : P (f' i) := by
            rw [HSA.out.1 i (by omega)]; exact HP.out i (by omega)
          have hy : P (f' k) := by
            obtain ⟨l, k1, k2, ek⟩ := HSA.out.2.1 k (by omega) (by have := HJI.out; omega)
            rw [ek]; exact HP.out l (by omega)
          have HX : Hid (P (f' i)) := hx
          have HY : Hid (P (f' k)) := hy
          clear hx hy
          by_cases hkk : K (f' i) < K (f' k)
          · have hd : decide (cmpv (K (f' i)) (K (f' k)) < 0) = true := by rw [cmpv_neg]; exact decide_eq_true hkk
            have HLT : Hid (Lt K (f' i) (f' k)) := (lt_right HXY.out).1 hkk
            clear hkk
            go_region_held (fun w' => w'.cell? ⟨g, k + 1, none⟩ = some (pv (f' i)) ∧ w'.cell? ⟨g, k, none⟩ = some (pv (f' k))) ((first | go_keep | exact ⟨cj1, ck1⟩)) ((go_at_call 32; refine (cmp_two HKJ.out.drew HRJ.out.drew (k + 1) k _ _ (by omega) (by omega) EX.out EY.out HX.out HY.out).mono ?_; rintro e w1 ⟨rfl, cj1, ck1, hr1, hg⟩; have HG1 : Hid (w.grownBy w1 (some g)) := grown_trans (grown_drew HGJ.out) hg; have HR1 : Hid (Rw w1 g cap n (rot f' (k + 1) i (i + 1))) := hr1; clear hg hr1))
            have fz1 := HR1.out.fz (k + 1)
            have fz2 := HR1.out.fz k
            have hne : ¬ k = k + 1 := by omega
            have hne' : ¬ k + 1 = k := by omega
            go_wp2
            go_region
            go_wp2
            go_roundw
            case rel =>
              refine ⟨k, by omega, by have := HJI.out; omega, by go_num, ?_, fun _ => HLT.out, ?_⟩
              · rw [← rot_step f' i k HJI.out]
                exact ((HR1.out.set (k + 1) _ (by omega)).set k _ (by omega)).drew
              · exact grown_drew (grown_trans (grown_trans HG1.out (grown_set _ _ _ _)) (grown_set _ _ _ _))
            case measure => simp [intOf]
          · have hd : decide (cmpv (K (f' i)) (K (f' k)) < 0) = false := by rw [cmpv_neg]; exact decide_eq_false hkk
            have HLT : Hid (Lt K (f' k) (f' i)) := (not_lt_right HXY.out).1 hkk
            clear hkk
            go_region_held (fun w' => w'.cell? ⟨g, k + 1, none⟩ = some (pv (f' i)) ∧ w'.cell? ⟨g, k, none⟩ = some (pv (f' k))) ((first | go_keep | exact ⟨cj1, ck1⟩)) ((go_at_call 32; refine (cmp_two HKJ.out.drew HRJ.out.drew (k + 1) k _ _ (by omega) (by omega) EX.out EY.out HX.out HY.out).mono ?_; rintro e w1 ⟨rfl, cj1, ck1, hr1, hg⟩; have HG1 : Hid (w.grownBy w1 (some g)) := grown_trans (grown_drew HGJ.out) hg; have HR1 : Hid (Rw w1 g cap n (rot f' (k + 1) i (i + 1))) := hr1; clear hg hr1))
            go_wp2
            go_roundw
            case rel =>
              refine ⟨i + 1, by omega, by omega, by go_num, ⟨_, HR1.out, ?_, ?_⟩, HG1.out⟩
              · exact ins_sorted HSO.out (by omega) HJI.out (fun _ => HLT.out) HLJ.out
              · exact (HSA.out.widen (Nat.le_refl _) (by omega)).trans ((rot_same f' HJI.out (by omega)).widen (by omega) (Nat.le_refl _))
            case measure => simp [intOf]; omega
        · obtain rfl : j = a := by omega
          have hja' : decide ((j : Int) < (j : Int)) = false := by simp
          go_wp2
          go_quiet (fail)
          go_wp2
          go_roundw
          case rel =>
            refine ⟨i + 1, by omega, by omega, by go_num, ⟨_, HRJ.out.drewN _, ?_, ?_⟩, grown_drewN HGJ.out _⟩
            · exact ins_sorted HSO.out (by omega) hji (fun h => by omega) HLJ.out
            · exact (HSA.out.widen (Nat.le_refl _) (by omega)).trans ((rot_same f' hji (by omega)).widen (by omega) (Nat.le_refl _))
          case measure => simp [intOf]; omega
    · have hlt' : decide ((i : Int) < (b : Int)) = false := by simp; omega
      go_wp2
      go_end0
      obtain rfl : i = b := by omega
      exact ⟨rfl, ⟨f', hrr, HSO.out, HSA.out⟩, HG.out⟩

set_option maxRecDepth 100000 in
set_option maxHeartbeats 1000000 in
theorem insertion_nil (g cap n a : Nat) (w : World) (hn : a ≤ 4096) (v : Value) :
    Calls Try.prog 35 #[.slice (some ⟨g, 0, none⟩) n cap, .int .i64 a, .int .i64 a, v] w fun e w' => e = .returned (.tuple #[]) ∧ w = w' := by
  go_enter Try.func35, Try.ntmps35
  go_wp2
  go_loopw [8] (fun vi wr => vi = .int .i64 ((a : Int) + 1) ∧ wr = w) (fun _ _ => 0)
  case atStart => exact ⟨by go_num, rfl⟩
  case round =>
    obtain ⟨rfl, rfl⟩ := hrel
    have hlt' : decide ((a : Int) + 1 < (a : Int)) = false := by simp; omega
    go_wp2
    go_end0
    exact ⟨rfl, rfl⟩
end Go.Proofs.Qxb6616745a
