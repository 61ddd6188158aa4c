import Derived.Test.Qxb6616745aU3
namespace Go.Proofs.Qxb6616745a
open Go.RowKit

theorem cnt_congr {f g : Nat → Bool} {n : Nat} (h : ∀ i, i < n → f i = g i) : cnt f n = cnt g n := by
  induction n with
  | zero => rfl
  | succ n ih => simp only [cnt]; rw [ih (fun i hi => h i (by omega)), h n (by omega)]
theorem cnt_zero {f : Nat → Bool} {n : Nat} : cnt f n = 0 ↔ ∀ i, i < n → f i = false := by
  induction n with
  | zero => exact ⟨fun _ i hi => by omega, fun _ => rfl⟩
  | succ n ih =>
    simp only [cnt]
    constructor
    · intro h i hi
      have h1 : cnt f n = 0 := by omega
      by_cases e : i = n
      · subst e
        cases hf : f i
        · rfl
        · rw [hf] at h; simp at h
      · exact ih.1 h1 i (by omega)
    · intro h
      rw [ih.2 (fun i hi => h i (by omega)), h n (by omega)]; rfl
theorem cnt_le_of {f g : Nat → Bool} {n : Nat} (h : ∀ i, i < n → f i = true → g i = true) : cnt f n ≤ cnt g n := by
  induction n with
  | zero => exact Nat.le_refl _
  | succ n ih =>
    simp only [cnt]
    have := ih (fun i hi => h i (by omega))
    have h2 := h n (by omega)
    cases hf : f n
    · simp; omega
    · rw [h2 hf]; simp; omega
/-- All but one. -/
def but (f : Nat → Bool) (k i : Nat) : Bool := !decide (i = k) && f i
theorem cnt_but_le (f : Nat → Bool) (k n : Nat) : cnt (but f k) n ≤ cnt f n := cnt_le_of fun i _ h => by unfold but at h; simp at h; exact h.2
theorem cnt_but {f : Nat → Bool} {k n : Nat} (hk : k < n) : cnt f n = cnt (but f k) n + (if f k then 1 else 0) := by
  induction n with
  | zero => omega
  | succ n ih =>
    simp only [cnt]
    by_cases e : k = n
    · subst e
      have h1 : cnt (but f k) k = cnt f k := cnt_congr fun i hi => by unfold but; simp; omega
      have h2 : but f k k = false := by simp [but]
      rw [h1, h2]; simp
    · rw [ih (by omega)]
      have : but f k n = f n := by unfold but; simp; omega
      rw [this]; omega
theorem cnt_dl {f : Nat → Bool} {k : Nat} : ∀ {n : Nat}, k ≤ n → cnt (dlx f k) n = cnt (but f k) (n + 1) := by
  intro n
  induction n with
  | zero =>
    intro h
    obtain rfl : k = 0 := by omega
    simp [cnt, but]
  | succ n ih =>
    intro h
    by_cases e : k = n + 1
    · subst e
      have h1 : cnt (dlx f (n + 1)) (n + 1) = cnt f (n + 1) := cnt_congr fun i hi => by unfold dlx; rw [if_pos hi]
      have h2 : cnt (but f (n + 1)) (n + 1) = cnt f (n + 1) := cnt_congr fun i hi => by unfold but; simp; omega
      have h3 : but f (n + 1) (n + 1) = false := by simp [but]
      rw [h1, ← h2]
      show _ = cnt (but f (n + 1)) (n + 1) + _
      rw [h3]; simp
    · have ih' := ih (by omega)
      show cnt (dlx f k) n + _ = cnt (but f k) (n + 1) + _
      rw [ih']
      have h1 : dlx f k n = f (n + 1) := by unfold dlx; rw [if_neg (by omega)]
      have h2 : but f k (n + 1) = f (n + 1) := by unfold but; simp; omega
      rw [h1, h2]
theorem dlx_waits (I U : Nat → Bool) (k : Nat) : waits (dlx I k) (dlx U k) = dlx (waits I U) k := by
  funext i; unfold waits dlx; split <;> rfl

/-- The order of (Last, position). -/
theorem ahd_asymm {L : Nat → Int} {i j : Nat} (h : ahd L i j = true) : ahd L j i = false := by
  unfold ahd at *
  simp only [Bool.or_eq_true, Bool.and_eq_true, decide_eq_true_eq, Bool.or_eq_false_iff, Bool.and_eq_false_iff, decide_eq_false_iff_not] at *
  omega

/-- How the removal at k leaves the place i of the whole list. -/
def back (V : Nat → Bool) (x : Bool) (k i : Nat) : Bool := if i = k then x else if i < k then V i else V (i - 1)

/-- The model by ranks. -/
def Final (I U : Nat → Bool) (L : Nat → Int) (n : Nat) (r : Int) (V : Nat → Bool) : Prop :=
  ∀ i, i < n → (i : Int) ≠ r → V i = (U i || (waits I U i && decide ((cnt (ahead I U L r i) n : Int) < 4 - (cnt (fun j => !decide ((j : Int) = r) && U j) n : Int))))

theorem inv_out {I U : Nat → Bool} {n : Nat} (h : InvB I U n = true) : cnt U n ≤ 4 ∧ (4 ≤ cnt U n ∨ cnt (waits I U) n = 0) := by
  unfold InvB at h
  simpa [Bool.and_eq_true, Bool.or_eq_true] using h

theorem pos_of_mem {f : Nat → Bool} {n i : Nat} (hi : i < n) (h : f i = true) : 0 < cnt f n := by
  rcases Nat.eq_zero_or_pos (cnt f n) with h0 | h0
  · have := cnt_zero.1 h0 i hi
    rw [h] at this; cases this
  · exact h0

theorem fill_same {I U U' : Nat → Bool} {L : Nat → Int} {n : Nat} (h : InvB I U n = true) (hf : FillTo I U L n U') : U' = U := by
  obtain ⟨h1, h2⟩ := inv_out h
  rcases hf with ⟨_, rfl⟩ | ⟨h3, m, hm, hw, _⟩
  · rfl
  · have := pos_of_mem hm hw
    omega

theorem final_miss {I U : Nat → Bool} {L : Nat → Int} {n : Nat} (h : InvB I U n = true) : Final I U L n (-1) U := by
  obtain ⟨h1, h2⟩ := inv_out h
  intro i hi _
  have e : cnt (fun j => !decide ((j : Int) = -1) && U j) n = cnt U n := cnt_congr fun j _ => by
    have : ¬ (j : Int) = -1 := by omega
    simp [this]
  rw [e]
  rcases h2 with h2 | h2
  · have : ¬ ((cnt (ahead I U L (-1) i) n : Int) < 4 - (cnt U n : Int)) := by omega
    simp [this]
  · rw [cnt_zero.1 h2 i hi]; simp

theorem rem_inv {I U : Nat → Bool} {n k : Nat} (h : InvB I U n = true) (hk : k < n) : 4 ≤ cnt (dlx U k) (n - 1) ∨ cnt (waits (dlx I k) (dlx U k)) (n - 1) = 0 ∨ cnt (dlx U k) (n - 1) = 3 := by
  obtain ⟨h1, h2⟩ := inv_out h
  have e1 : cnt (dlx U k) (n - 1) = cnt (but U k) n := by rw [cnt_dl (by omega), show n - 1 + 1 = n by omega]
  have e2 : cnt (waits (dlx I k) (dlx U k)) (n - 1) = cnt (but (waits I U) k) n := by rw [dlx_waits, cnt_dl (by omega), show n - 1 + 1 = n by omega]
  have e3 := cnt_but (f := U) hk
  have e4 := cnt_but_le (waits I U) k n
  rw [e1, e2]
  rcases h2 with h2 | h2
  · cases hu : U k <;> rw [hu] at e3 <;> simp at e3 <;> omega
  · omega

theorem final_hit {I U U' : Nat → Bool} {L : Nat → Int} {n k : Nat} (hk : k < n) (hf : FillTo (dlx I k) (dlx U k) (dlx L k) (n - 1) U') : Final I U L n k (back U' (U k) k) := by
  have e1 : cnt (dlx U k) (n - 1) = cnt (but U k) n := by rw [cnt_dl (by omega), show n - 1 + 1 = n by omega]
  have e2 : cnt (waits (dlx I k) (dlx U k)) (n - 1) = cnt (but (waits I U) k) n := by rw [dlx_waits, cnt_dl (by omega), show n - 1 + 1 = n by omega]
  have eb : cnt (fun j => !decide ((j : Int) = (k : Int)) && U j) n = cnt (but U k) n := cnt_congr fun j _ => by
    unfold but
    have : decide ((j : Int) = (k : Int)) = decide (j = k) := by
      by_cases h : j = k
      · simp [h]
      · have h' : ¬ (j : Int) = k := by omega
        simp [h, h']
    rw [this]
  -- the place in the short list
  have place : ∀ i, i < n → i ≠ k → ∃ s, s < n - 1 ∧ back U' (U k) k i = U' s ∧ (∀ (α : Type) (f : Nat → α), dlx f k s = f i) := by
    intro i hi hne
    by_cases h : i < k
    · exact ⟨i, by omega, by simp [back, hne, h], fun α f => by unfold dlx; rw [if_pos h]⟩
    · exact ⟨i - 1, by omega, by simp [back, hne, h], fun α f => by unfold dlx; rw [if_neg (by omega), show i - 1 + 1 = i by omega]⟩
  intro i hi hne
  have hne' : i ≠ k := by omega
  rw [eb]
  obtain ⟨s, hs, hbk, hdl⟩ := place i hi hne'
  rw [hbk]
  rcases hf with ⟨h1, rfl⟩ | ⟨h3, m, hm, hw, hleast, rfl⟩
  · rw [hdl Bool U]
    rw [e1, e2] at h1
    rcases h1 with h1 | h1
    · have : ¬ ((cnt (ahead I U L k i) n : Int) < 4 - (cnt (but U k) n : Int)) := by omega
      simp [this]
    · have := cnt_zero.1 h1 i hi
      have hw : waits I U i = false := by simpa [but, hne'] using this
      rw [hw]; simp
  · -- one slot is handed on
    rw [e1] at h3
    rw [h3]
    have hdlw : dlx (waits I U) k s = waits I U i := hdl Bool (waits I U)
    by_cases e : s = m
    · subst e
      have hwi : waits I U i = true := by
        rw [dlx_waits] at hw
        rw [← hdlw]; exact hw
      have hz : cnt (ahead I U L k i) n = 0 := cnt_zero.2 fun j hj => by
        by_cases hjk : j = k
        · subst hjk; simp [ahead]
        · by_cases hji : j = i
          · subst hji; simp [ahead]
          · cases hwj : waits I U j
            · simp [ahead, hwj]
            · obtain ⟨s', hs', _, hdl'⟩ := place j hj hjk
              have hss : s' ≠ s := fun he => by
                subst he
                have h1 : (if s' < k then s' else s' + 1) = i := hdl Nat (fun x => x)
                have h2 : (if s' < k then s' else s' + 1) = j := hdl' Nat (fun x => x)
                rw [h1] at h2; exact hji h2.symm
              have hl := hleast s' hs' (by rw [dlx_waits, hdl' Bool (waits I U)]; exact hwj) hss
              have : ahd L i j = true := by
                unfold ahd at hl ⊢
                rw [hdl Int L, hdl' Int L] at hl
                simp only [Bool.or_eq_true, Bool.and_eq_true, decide_eq_true_eq] at hl ⊢
                rcases hl with hl | ⟨hl, hl'⟩
                · exact .inl hl
                · refine .inr ⟨hl, ?_⟩
                  have h1 : (if s < k then s else s + 1) = i := hdl Nat (fun x => x)
                  have h2 : (if s' < k then s' else s' + 1) = j := hdl' Nat (fun x => x)
                  split at h1 <;> split at h2 <;> omega
              simp [ahead, ahd_asymm this]
      rw [hz, hwi]
      simp [turn]
    · have ht : turn (dlx U k) m s = U i := by
        have : turn (dlx U k) m s = dlx U k s := by simp [turn, e]
        rw [this]; exact hdl Bool U
      rw [ht]
      cases hwi : waits I U i
      · simp
      · -- m comes ahead of i
        have hl := hleast s hs (by rw [dlx_waits, hdlw]; exact hwi) e
        obtain ⟨j, hj, hjk, hdl'⟩ : ∃ j, j < n ∧ j ≠ k ∧ (∀ (α : Type) (f : Nat → α), dlx f k m = f j) := by
          by_cases h : m < k
          · exact ⟨m, by omega, by omega, fun α f => by unfold dlx; rw [if_pos h]⟩
          · exact ⟨m + 1, by omega, by omega, fun α f => by unfold dlx; rw [if_neg h]⟩
        have hji : j ≠ i := fun he => by
          have h1 : (if s < k then s else s + 1) = i := hdl Nat (fun x => x)
          have h2 : (if m < k then m else m + 1) = j := hdl' Nat (fun x => x)
          split at h1 <;> split at h2 <;> omega
        have hah : ahd L j i = true := by
          unfold ahd at hl ⊢
          rw [hdl Int L, hdl' Int L] at hl
          simp only [Bool.or_eq_true, Bool.and_eq_true, decide_eq_true_eq] at hl ⊢
          rcases hl with hl | ⟨hl, hl'⟩
          · exact .inl hl
          · refine .inr ⟨hl, ?_⟩
            have h1 : (if s < k then s else s + 1) = i := hdl Nat (fun x => x)
            have h2 : (if m < k then m else m + 1) = j := hdl' Nat (fun x => x)
            split at h1 <;> split at h2 <;> omega
        have hwj : waits I U j = true := by
          rw [dlx_waits, hdl' Bool (waits I U)] at hw; exact hw
        have hp : 0 < cnt (ahead I U L k i) n := pos_of_mem hj (by
          have : ¬ (j : Int) = (k : Int) := by omega
          simp [ahead, this, hji, hwj, hah])
        have : ¬ ((cnt (ahead I U L k i) n : Int) < 4 - ((3 : Nat) : Int)) := by omega
        rw [decide_eq_false this]; simp
end Go.Proofs.Qxb6616745a
