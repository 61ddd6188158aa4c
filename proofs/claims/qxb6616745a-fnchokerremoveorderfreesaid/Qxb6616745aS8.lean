import Derived.Test.Qxb6616745aS7
namespace Go.Proofs.Qxb6616745a
open Go.RowKit

theorem dv2 {d x a : Nat} (h1 : d ∣ x) (h2 : d ∣ a) (h : x < a) : x + d ≤ a := by
  have := Nat.le_of_dvd (by omega) (Nat.dvd_sub h2 h1)
  omega
theorem dv1 {S x : Nat} (h : 2 * S ∣ x) : S ∣ x := Nat.dvd_trans (Nat.dvd_mul_left S 2) h

/-- All that stands below the place c has smaller block numbers than all that stands beyond it. -/
def Bd (f : Nat → Nat) (n c : Nat) : Prop := ∀ i j, i < c → c ≤ j → j < n → f i < f j
theorem Bd.same {f f' : Nat → Nat} {n c x y : Nat} (h : Bd f n c) (hs : Same f f' x y) (hc : c ≤ x ∨ y ≤ c) (hy : y ≤ n) : Bd f' n c := by
  intro i j h1 h2 h3
  have hi : ∃ i', i' < c ∧ f' i = f i' := by
    by_cases h : x ≤ i ∧ i < y
    · obtain ⟨k, k1, k2, e⟩ := hs.2.1 i h.1 h.2
      exact ⟨k, by omega, e⟩
    · exact ⟨i, h1, hs.1 i (by omega)⟩
  have hj : ∃ j', c ≤ j' ∧ j' < n ∧ f' j = f j' := by
    by_cases h : x ≤ j ∧ j < y
    · obtain ⟨k, k1, k2, e⟩ := hs.2.1 j h.1 h.2
      exact ⟨k, by omega, by omega, e⟩
    · exact ⟨j, h2, h3, hs.1 j (by omega)⟩
  obtain ⟨i', a1, e1⟩ := hi
  obtain ⟨j', a2, a3, e2⟩ := hj
  rw [e1, e2]; exact h i' j' a1 a2 a3
theorem Sorted.same_out {K : Nat → Int} {f f' : Nat → Nat} {a b x y : Nat} (h : Sorted K f a b) (hs : Same f f' x y) (hc : b ≤ x ∨ y ≤ a) : Sorted K f' a b :=
  h.congr fun i h1 h2 => hs.1 i (by omega)
theorem sorted_nil {K : Nat → Int} {f : Nat → Nat} {a b : Nat} (h : b ≤ a + 1) : Sorted K f a b := fun i j h1 h2 h3 => by omega

/-- The row while the first blocks are sorted, each for itself. -/
def P1 (K : Nat → Int) (f0 f : Nat → Nat) (n a : Nat) : Prop :=
  20 ∣ a ∧ (∀ x, 20 ∣ x → x < a → Sorted K f x (x + 20)) ∧ (∀ c, 20 ∣ c → Bd f n c) ∧ Same f0 f 0 a
theorem P1.start {K : Nat → Int} {f : Nat → Nat} {n : Nat} (h : ∀ i j, i < j → j < n → f i < f j) : P1 K f f n 0 :=
  ⟨Nat.dvd_zero _, fun x _ h => by omega, fun c _ i j h1 h2 h3 => h i j (by omega) h3, Same.refl _ _ _⟩
theorem P1.step {K : Nat → Int} {f0 f f' : Nat → Nat} {n a : Nat} (h : P1 K f0 f n a) (hs : Sorted K f' a (a + 20)) (hm : Same f f' a (a + 20)) (hn : a + 20 ≤ n) : P1 K f0 f' n (a + 20) := by
  obtain ⟨h1, h2, h3, h4⟩ := h
  refine ⟨Nat.dvd_add h1 (Nat.dvd_refl _), fun x hx hl => ?_, fun c hc => ?_, (h4.widen (Nat.le_refl _) (by omega)).trans (hm.widen (by omega) (Nat.le_refl _))⟩
  · by_cases e : x < a
    · have := dv2 hx h1 e
      exact (h2 x hx e).same_out hm (.inl this)
    · by_cases e' : x = a
      · subst e'; exact hs
      · have := dv2 h1 hx (by omega); omega
  · refine (h3 c hc).same hm ?_ hn
    by_cases e : c ≤ a
    · exact .inl e
    · exact .inr (dv2 h1 hc (by omega))

/-- Sorted blocks of S places. -/
def Blk (K : Nat → Int) (f0 f : Nat → Nat) (n S : Nat) : Prop :=
  (∀ x, S ∣ x → Sorted K f x (min (x + S) n)) ∧ (∀ c, S ∣ c → Bd f n c) ∧ Same f0 f 0 n
theorem P1.stop {K : Nat → Int} {f0 f f' : Nat → Nat} {n a : Nat} (h : P1 K f0 f n a) (hs : Sorted K f' a n) (hm : Same f f' a n) (h1 : a ≤ n) (h2 : n < a + 20) : Blk K f0 f' n 20 := by
  obtain ⟨g1, g2, g3, g4⟩ := h
  refine ⟨fun x hx => ?_, fun c hc => ?_, (g4.widen (Nat.le_refl _) h1).trans (hm.widen (by omega) (Nat.le_refl _))⟩
  · by_cases e : x < a
    · have := dv2 hx g1 e
      rw [Nat.min_eq_left (by omega)]
      exact (g2 x hx e).same_out hm (.inl this)
    · by_cases e' : x = a
      · subst e'; rw [Nat.min_eq_right (by omega)]; exact hs
      · exact sorted_nil (by omega)
  · refine (g3 c hc).same hm ?_ (Nat.le_refl _)
    by_cases e : c ≤ a
    · exact .inl e
    · have := dv2 g1 hc (by omega); exact .inr (by omega)

/-- The row while blocks of S are merged two by two. -/
def In2 (K : Nat → Int) (f0 f : Nat → Nat) (n S a : Nat) : Prop :=
  2 * S ∣ a ∧ (∀ x, 2 * S ∣ x → x < a → Sorted K f x (x + 2 * S)) ∧ (∀ x, S ∣ x → a ≤ x → Sorted K f x (min (x + S) n)) ∧ (∀ c, 2 * S ∣ c → Bd f n c) ∧ (∀ c, S ∣ c → a ≤ c → Bd f n c) ∧ Same f0 f 0 n
theorem Blk.start {K : Nat → Int} {f0 f : Nat → Nat} {n S : Nat} (h : Blk K f0 f n S) : In2 K f0 f n S 0 :=
  ⟨Nat.dvd_zero _, fun x _ h => by omega, fun x hx _ => h.1 x hx, fun c hc => h.2.1 c (dv1 hc), fun c hc _ => h.2.1 c hc, h.2.2⟩
theorem In2.left {K : Nat → Int} {f0 f : Nat → Nat} {n S a : Nat} (h : In2 K f0 f n S a) (hn : a + S ≤ n) : Sorted K f a (a + S) := by
  have := h.2.2.1 a (dv1 h.1) (Nat.le_refl _)
  rwa [Nat.min_eq_left hn] at this
theorem In2.right {K : Nat → Int} {f0 f : Nat → Nat} {n S a b : Nat} (h : In2 K f0 f n S a) (hb : b = min (a + 2 * S) n) (_hs : a + S ≤ n) : Sorted K f (a + S) b := by
  have := h.2.2.1 (a + S) (Nat.dvd_add (dv1 h.1) (Nat.dvd_refl _)) (by omega)
  rwa [show min (a + S + S) n = b by omega] at this
theorem In2.cross {K : Nat → Int} {f0 f : Nat → Nat} {n S a b : Nat} (h : In2 K f0 f n S a) (hb : b ≤ n) : Cross f a (a + S) b := by
  have := h.2.2.2.2.1 (a + S) (Nat.dvd_add (dv1 h.1) (Nat.dvd_refl _)) (by omega)
  exact fun i j _ h2 h3 h4 => this i j h2 h3 (by omega)
theorem In2.step {K : Nat → Int} {f0 f f' : Nat → Nat} {n S a : Nat} (h : In2 K f0 f n S a) (hs : Sorted K f' a (a + 2 * S)) (hm : Same f f' a (a + 2 * S)) (hn : a + 2 * S ≤ n) : In2 K f0 f' n S (a + 2 * S) := by
  obtain ⟨h1, h2, h3, h4, h5, h6⟩ := h
  refine ⟨Nat.dvd_add h1 (Nat.dvd_refl _), fun x hx hl => ?_, fun x hx hl => ?_, fun c hc => ?_, fun c hc hl => ?_, h6.trans (hm.widen (by omega) (by omega))⟩
  · by_cases e : x < a
    · have := dv2 hx h1 e
      exact (h2 x hx e).same_out hm (.inl this)
    · by_cases e' : x = a
      · subst e'; exact hs
      · have := dv2 h1 hx (by omega); omega
  · exact (h3 x hx (by omega)).same_out hm (.inr hl)
  · refine (h4 c hc).same hm ?_ hn
    by_cases e : c ≤ a
    · exact .inl e
    · exact .inr (dv2 h1 hc (by omega))
  · exact (h5 c hc (by omega)).same hm (.inr hl) hn
theorem In2.stop {K : Nat → Int} {f0 f f' : Nat → Nat} {n S a : Nat} (h : In2 K f0 f n S a) (hs : Sorted K f' a n) (hm : Same f f' a n) (h1 : a ≤ n) (h2 : n < a + 2 * S) : Blk K f0 f' n (2 * S) := by
  obtain ⟨g1, g2, g3, g4, g5, g6⟩ := h
  refine ⟨fun x hx => ?_, fun c hc => ?_, g6.trans (hm.widen (by omega) (Nat.le_refl _))⟩
  · by_cases e : x < a
    · have := dv2 hx g1 e
      rw [Nat.min_eq_left (by omega)]
      exact (g2 x hx e).same_out hm (.inl this)
    · by_cases e' : x = a
      · subst e'; rw [Nat.min_eq_right (by omega)]; exact hs
      · exact sorted_nil (by have := dv2 g1 hx (by omega); omega)
  · refine (g4 c hc).same hm ?_ (Nat.le_refl _)
    by_cases e : c ≤ a
    · exact .inl e
    · have := dv2 g1 hc (by omega); exact .inr (by omega)
theorem In2.short {K : Nat → Int} {f0 f : Nat → Nat} {n S a : Nat} (h : In2 K f0 f n S a) (h2 : n ≤ a + S) : Sorted K f a n := by
  have := h.2.2.1 a (dv1 h.1) (Nat.le_refl _)
  rwa [Nat.min_eq_right h2] at this
theorem Blk.stop {K : Nat → Int} {f0 f : Nat → Nat} {n S : Nat} (h : Blk K f0 f n S) (h2 : n ≤ S) : Sorted K f 0 n ∧ Same f0 f 0 n := by
  have := h.1 0 (Nat.dvd_zero _)
  rw [Nat.min_eq_right (by omega)] at this
  exact ⟨this, h.2.2⟩
end Go.Proofs.Qxb6616745a
