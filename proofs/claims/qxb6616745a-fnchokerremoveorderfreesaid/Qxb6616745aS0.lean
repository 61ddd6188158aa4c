import Derived.WalkKit
namespace Go.Proofs.Qxb6616745a

/-- The order of the stable sort: by the key, then by the block's number. -/
def Lt (K : Nat → Int) (x y : Nat) : Prop := K x < K y ∨ (K x = K y ∧ x < y)
theorem Lt.trans {K : Nat → Int} {x y z : Nat} (h : Lt K x y) (h' : Lt K y z) : Lt K x z := by unfold Lt at *; omega
theorem Lt.irrefl {K : Nat → Int} {x : Nat} (h : Lt K x x) : False := by unfold Lt at h; omega
/-- An element from the right against one from the left: the key alone tells. -/
theorem lt_right {K : Nat → Int} {x y : Nat} (h : y < x) : K x < K y ↔ Lt K x y := by unfold Lt; omega
theorem not_lt_right {K : Nat → Int} {x y : Nat} (h : y < x) : ¬ K x < K y ↔ Lt K y x := by unfold Lt; omega

def Sorted (K : Nat → Int) (f : Nat → Nat) (a b : Nat) : Prop := ∀ i j, a ≤ i → i < j → j < b → Lt K (f i) (f j)
/-- g is f with the places from a up to b turned among themselves. -/
def Same (f g : Nat → Nat) (a b : Nat) : Prop :=
  (∀ i, i < a ∨ b ≤ i → g i = f i) ∧ (∀ i, a ≤ i → i < b → ∃ j, a ≤ j ∧ j < b ∧ g i = f j) ∧ (∀ j, a ≤ j → j < b → ∃ i, a ≤ i ∧ i < b ∧ g i = f j)
theorem Same.refl (f : Nat → Nat) (a b : Nat) : Same f f a b := ⟨fun _ _ => rfl, fun i h1 h2 => ⟨i, h1, h2, rfl⟩, fun i h1 h2 => ⟨i, h1, h2, rfl⟩⟩
theorem Same.trans {f g h : Nat → Nat} {a b : Nat} (p : Same f g a b) (q : Same g h a b) : Same f h a b := by
  refine ⟨fun i hi => (q.1 i hi).trans (p.1 i hi), fun i h1 h2 => ?_, fun j h1 h2 => ?_⟩
  · obtain ⟨j, a1, a2, e⟩ := q.2.1 i h1 h2
    obtain ⟨k, b1, b2, e'⟩ := p.2.1 j a1 a2
    exact ⟨k, b1, b2, e.trans e'⟩
  · obtain ⟨i, a1, a2, e⟩ := p.2.2 j h1 h2
    obtain ⟨k, b1, b2, e'⟩ := q.2.2 i a1 a2
    exact ⟨k, b1, b2, e'.trans e⟩
theorem Same.widen {f g : Nat → Nat} {a b a' b' : Nat} (p : Same f g a b) (h1 : a' ≤ a) (h2 : b ≤ b') : Same f g a' b' := by
  refine ⟨fun i hi => p.1 i (by omega), fun i g1 g2 => ?_, fun j g1 g2 => ?_⟩
  · by_cases h : a ≤ i ∧ i < b
    · obtain ⟨j, c1, c2, e⟩ := p.2.1 i h.1 h.2
      exact ⟨j, by omega, by omega, e⟩
    · exact ⟨i, g1, g2, p.1 i (by omega)⟩
  · by_cases h : a ≤ j ∧ j < b
    · obtain ⟨i, c1, c2, e⟩ := p.2.2 j h.1 h.2
      exact ⟨i, by omega, by omega, e⟩
    · exact ⟨j, g1, g2, p.1 j (by omega)⟩

/-- The places from a up to m come behind those from m up to b. -/
def rot (f : Nat → Nat) (a m b : Nat) : Nat → Nat := fun i => if a ≤ i ∧ i < a + (b - m) then f (i + (m - a)) else if a + (b - m) ≤ i ∧ i < b then f (i - (b - m)) else f i
theorem rot_left {f : Nat → Nat} {a m b i : Nat} (h1 : a ≤ i) (h2 : i < a + (b - m)) : rot f a m b i = f (i + (m - a)) := by unfold rot; rw [if_pos ⟨h1, h2⟩]
theorem rot_right {f : Nat → Nat} {a m b i : Nat} (h1 : a + (b - m) ≤ i) (h2 : i < b) : rot f a m b i = f (i - (b - m)) := by unfold rot; rw [if_neg (by omega), if_pos ⟨h1, h2⟩]
theorem rot_out {f : Nat → Nat} {a m b i : Nat} (_hm : a ≤ m) (h : i < a ∨ (b ≤ i ∧ a + (b - m) ≤ i)) : rot f a m b i = f i := by unfold rot; rw [if_neg (by omega), if_neg (by omega)]
theorem rot_same (f : Nat → Nat) {a m b : Nat} (h1 : a ≤ m) (h2 : m ≤ b) : Same f (rot f a m b) a b := by
  refine ⟨fun i hi => rot_out h1 (by omega), fun i g1 g2 => ?_, fun j g1 g2 => ?_⟩
  · by_cases h : i < a + (b - m)
    · exact ⟨i + (m - a), by omega, by omega, rot_left g1 h⟩
    · exact ⟨i - (b - m), by omega, by omega, rot_right (by omega) g2⟩
  · by_cases h : j < m
    · exact ⟨j + (b - m), by omega, by omega, by rw [rot_right (by omega) (by omega)]; congr 1; omega⟩
    · exact ⟨j - (m - a), by omega, by omega, by rw [rot_left (by omega) (by omega)]; congr 1; omega⟩

/-- Rotation: nothing to the left, or nothing to the right. -/
theorem rot_triv {f : Nat → Nat} {a m b : Nat} (h : (a = m ∧ m ≤ b) ∨ (m = b ∧ a ≤ m)) : rot f a m b = f := by
  funext i
  unfold rot
  repeat' split
  all_goals first | rfl | (exfalso; omega) | (congr 1; omega)

/-- One element put into a sorted run ahead of it. -/
theorem ins_sorted {K : Nat → Int} {f : Nat → Nat} {a m j : Nat} (hs : Sorted K f a m) (h1 : a ≤ j) (h2 : j ≤ m) (hl : a < j → Lt K (f (j - 1)) (f m)) (hr : j < m → Lt K (f m) (f j)) : Sorted K (rot f j m (m + 1)) a (m + 1) := by
  have e : ∀ i, a ≤ i → i < m + 1 → rot f j m (m + 1) i = if i < j then f i else if i = j then f m else f (i - 1) := by
    intro i _ hi
    unfold rot
    repeat' split
    all_goals first | rfl | (exfalso; omega) | (congr 1; omega)
  have low : ∀ i, a ≤ i → i < j → Lt K (f i) (f m) := fun i g1 g2 => by
    by_cases h : i = j - 1
    · subst h; exact hl (by omega)
    · exact (hs i (j - 1) g1 (by omega) (by omega)).trans (hl (by omega))
  have high : ∀ i, j ≤ i → i < m → Lt K (f m) (f i) := fun i g1 g2 => by
    by_cases h : i = j
    · subst h; exact hr g2
    · exact (hr (by omega)).trans (hs j i h1 (by omega) g2)
  intro x y hx hxy hy
  rw [e x hx (by omega), e y (by omega) hy]
  by_cases p1 : x < j
  · rw [if_pos p1]
    by_cases p2 : y < j
    · rw [if_pos p2]; exact hs x y hx hxy (by omega)
    · rw [if_neg p2]
      by_cases p3 : y = j
      · rw [if_pos p3]; exact low x hx p1
      · rw [if_neg p3]
        by_cases p4 : x = y - 1
        · omega
        · exact hs x (y - 1) hx (by omega) (by omega)
  · rw [if_neg p1, if_neg (show ¬ y < j by omega), if_neg (show ¬ y = j by omega)]
    by_cases p3 : x = j
    · rw [if_pos p3]; exact high (y - 1) (by omega) (by omega)
    · rw [if_neg p3]; exact hs (x - 1) (y - 1) (by omega) (by omega) (by omega)

/-- The first element put into the sorted run behind it. -/
theorem ins_first {K : Nat → Int} {f : Nat → Nat} {a b i : Nat} (hs : Sorted K f (a + 1) b) (h1 : a + 1 ≤ i) (h2 : i ≤ b) (hl : a + 1 < i → Lt K (f (i - 1)) (f a)) (hr : i < b → Lt K (f a) (f i)) : Sorted K (rot f a (a + 1) i) a b := by
  have e : ∀ x, a ≤ x → rot f a (a + 1) i x = if x + 1 < i then f (x + 1) else if x + 1 = i then f a else f x := by
    intro x hx
    unfold rot
    repeat' split
    all_goals first | rfl | (exfalso; omega) | (congr 1; omega)
  have low : ∀ x, a + 1 ≤ x → x < i → Lt K (f x) (f a) := fun x g1 g2 => by
    by_cases h : x = i - 1
    · subst h; exact hl (by omega)
    · exact (hs x (i - 1) g1 (by omega) (by omega)).trans (hl (by omega))
  have high : ∀ x, i ≤ x → x < b → Lt K (f a) (f x) := fun x g1 g2 => by
    by_cases h : x = i
    · subst h; exact hr g2
    · exact (hr (by omega)).trans (hs i x h1 (by omega) g2)
  intro x y hx hxy hy
  rw [e x hx, e y (by omega)]
  by_cases p1 : y + 1 < i
  · rw [if_pos p1, if_pos (show x + 1 < i by omega)]; exact hs (x + 1) (y + 1) (by omega) (by omega) (by omega)
  · rw [if_neg p1]
    by_cases p2 : y + 1 = i
    · rw [if_pos p2, if_pos (show x + 1 < i by omega)]; exact low (x + 1) (by omega) (by omega)
    · rw [if_neg p2]
      by_cases p3 : x + 1 < i
      · rw [if_pos p3]
        by_cases p4 : x + 1 = y
        · omega
        · exact hs (x + 1) y (by omega) (by omega) hy
      · rw [if_neg p3]
        by_cases p4 : x + 1 = i
        · rw [if_pos p4]; exact high y (by omega) hy
        · rw [if_neg p4]; exact hs x y (by omega) hxy hy

/-- Every element of the left run has a smaller block number than every one of the right run. -/
def Cross (f : Nat → Nat) (a m b : Nat) : Prop := ∀ i j, a ≤ i → i < m → m ≤ j → j < b → f i < f j

/-- What symMerge's cut gives: the two halves to merge, and that they are apart. -/
theorem cut_halves {K : Nat → Int} {f : Nat → Nat} {a m b s e mid : Nat} (h1 : Sorted K f a m) (h2 : Sorted K f m b) (hc : Cross f a m b)
    (p1 : a ≤ s) (p2 : s ≤ m) (p3 : m ≤ e) (p4 : e ≤ b) (p5 : s + e = mid + m)
    (q1 : a < s → e < b → Lt K (f (s - 1)) (f e)) (q2 : s < m → m < e → Lt K (f (e - 1)) (f s)) :
    Sorted K (rot f s m e) a s ∧ Sorted K (rot f s m e) s mid ∧ Cross (rot f s m e) a s mid ∧
    Sorted K (rot f s m e) mid e ∧ Sorted K (rot f s m e) e b ∧ Cross (rot f s m e) mid e b ∧
    (∀ i j, a ≤ i → i < mid → mid ≤ j → j < b → Lt K (rot f s m e i) (rot f s m e j)) := by
  have l0 : ∀ i, i < s → rot f s m e i = f i := fun i hi => rot_out p2 (.inl hi)
  have l1 : ∀ i, s ≤ i → i < mid → rot f s m e i = f (i + (m - s)) := fun i g1 g2 => rot_left g1 (by omega)
  have l2 : ∀ i, mid ≤ i → i < e → rot f s m e i = f (i - (e - m)) := fun i g1 g2 => rot_right (by omega) g2
  have l3 : ∀ i, e ≤ i → rot f s m e i = f i := fun i g1 => rot_out p2 (by omega)
  refine ⟨?_, ?_, ?_, ?_, ?_, ?_, ?_⟩
  · intro i j g1 g2 g3; rw [l0 i (by omega), l0 j g3]; exact h1 i j g1 g2 (by omega)
  · intro i j g1 g2 g3; rw [l1 i g1 (by omega), l1 j (by omega) g3]; exact h2 _ _ (by omega) (by omega) (by omega)
  · intro i j g1 g2 g3 g4; rw [l0 i g2, l1 j g3 g4]; exact hc _ _ g1 (by omega) (by omega) (by omega)
  · intro i j g1 g2 g3; rw [l2 i g1 (by omega), l2 j (by omega) g3]; exact h1 _ _ (by omega) (by omega) (by omega)
  · intro i j g1 g2 g3; rw [l3 i g1, l3 j (by omega)]; exact h2 i j (by omega) g2 g3
  · intro i j g1 g2 g3 g4; rw [l2 i g1 g2, l3 j g3]; exact hc _ _ (by omega) (by omega) (by omega) g4
  · -- apart
    have A : ∀ i, a ≤ i → i < s → ∀ j, e ≤ j → j < b → Lt K (f i) (f j) := fun i g1 g2 j g3 g4 => by
      have base := q1 (by omega) (by omega)
      have x1 : Lt K (f i) (f e) := by
        by_cases h : i = s - 1
        · subst h; exact base
        · exact (h1 i (s - 1) g1 (by omega) (by omega)).trans base
      by_cases h : j = e
      · subst h; exact x1
      · exact x1.trans (h2 e j p3 (by omega) g4)
    have B : ∀ i, m ≤ i → i < e → ∀ j, s ≤ j → j < m → Lt K (f i) (f j) := fun i g1 g2 j g3 g4 => by
      have base := q2 (by omega) (by omega)
      have x1 : Lt K (f i) (f s) := by
        by_cases h : i = e - 1
        · subst h; exact base
        · exact (h2 i (e - 1) g1 (by omega) (by omega)).trans base
      by_cases h : j = s
      · subst h; exact x1
      · exact x1.trans (h1 s j (by omega) (by omega) g4)
    intro i j g1 g2 g3 g4
    by_cases c1 : i < s
    · rw [l0 i c1]
      by_cases c2 : j < e
      · rw [l2 j g3 c2]; exact h1 _ _ g1 (by omega) (by omega)
      · rw [l3 j (by omega)]; exact A i g1 c1 j (by omega) g4
    · rw [l1 i (by omega) g2]
      by_cases c2 : j < e
      · rw [l2 j g3 c2]; exact B _ (by omega) (by omega) _ (by omega) (by omega)
      · rw [l3 j (by omega)]; exact h2 _ _ (by omega) (by omega) g4

/-- Two sorted halves that are apart are one sorted run, whatever each was turned within itself. -/
theorem join_halves {K : Nat → Int} {f g : Nat → Nat} {a mid b : Nat} (hl : Sorted K g a mid) (hr : Sorted K g mid b) (s1 : ∀ i, a ≤ i → i < mid → ∃ j, a ≤ j ∧ j < mid ∧ g i = f j) (s2 : ∀ i, mid ≤ i → i < b → ∃ j, mid ≤ j ∧ j < b ∧ g i = f j)
    (hx : ∀ i j, a ≤ i → i < mid → mid ≤ j → j < b → Lt K (f i) (f j)) : Sorted K g a b := by
  intro i j g1 g2 g3
  by_cases h1 : j < mid
  · exact hl i j g1 g2 h1
  · by_cases h2 : mid ≤ i
    · exact hr i j h2 g2 g3
    · obtain ⟨x, x1, x2, ex⟩ := s1 i g1 (by omega)
      obtain ⟨y, y1, y2, ey⟩ := s2 j (by omega) g3
      rw [ex, ey]; exact hx x y x1 x2 y1 y2

/-- A run of one part, the other empty. -/
theorem sorted_left_empty {K : Nat → Int} {f : Nat → Nat} {a s mid : Nat} (h1 : Sorted K f a s) (h2 : Sorted K f s mid) (h : ¬ (a < s ∧ s < mid)) (p : a ≤ s) (q : s ≤ mid) : Sorted K f a mid := by
  intro i j g1 g2 g3
  by_cases c : a < s
  · exact h1 i j g1 g2 (by omega)
  · exact h2 i j (by omega) g2 g3
end Go.Proofs.Qxb6616745a
