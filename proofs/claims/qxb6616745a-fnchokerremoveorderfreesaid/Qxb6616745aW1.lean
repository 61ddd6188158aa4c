import Derived.Test.Qxb6616745aU4
namespace Go.Proofs.Qxb6616745a
open Go.RowKit

/-- The state that fills keep: all that U holds, four or none waits, and of those that waited the foremost. -/
structure Fair (I U V : Nat → Bool) (L : Nat → Int) (n : Nat) : Prop where
  up : ∀ i, i < n → U i = true → V i = true
  of : ∀ i, i < n → V i = true → U i = true ∨ I i = true
  le : cnt V n ≤ 4
  full : cnt V n = 4 ∨ ∀ i, i < n → waits I V i = false
  down : ∀ i j, i < n → j < n → waits I U i = true → waits I U j = true → ahd L j i = true → V i = true → V j = true

theorem fair_start {I U : Nat → Bool} {L : Nat → Int} {n : Nat} (h : InvB I U n = true) : Fair I U U L n := by
  obtain ⟨h1, h2⟩ := inv_out h
  refine ⟨fun _ _ h => h, fun _ _ h => .inl h, h1, ?_, fun i j _ _ h _ _ h3 => ?_⟩
  · rcases h2 with h2 | h2
    · left; omega
    · right; exact cnt_zero.1 h2
  · simp [waits, h3] at h

theorem cnt_lt_of {f g : Nat → Bool} {n x : Nat} (h : ∀ i, i < n → f i = true → g i = true) (hx : x < n) (h1 : g x = true) (h2 : f x = false) : cnt f n < cnt g n := by
  have h3 : cnt f n ≤ cnt (but g x) n := cnt_le_of fun i hi hf => by
    unfold but
    have : i ≠ x := fun e => by rw [e, h2] at hf; cases hf
    simp [this, h i hi hf]
  have h4 := cnt_but (f := g) hx
  rw [h1] at h4
  simp at h4
  omega
theorem cnt_other {f g : Nat → Bool} {n x : Nat} (hx : x < n) (h1 : g x = true) (h2 : f x = false) (hle : cnt g n ≤ cnt f n) : ∃ j, j < n ∧ f j = true ∧ g j = false := by
  apply Classical.byContradiction
  intro hno
  have := cnt_lt_of (f := f) (g := g) (fun i hi hf => by
    cases hg : g i
    · exact absurd ⟨i, hi, hf, hg⟩ hno
    · rfl) hx h1 h2
  omega
theorem cnt_split {f g h : Nat → Bool} {n : Nat} (h1 : ∀ i, i < n → f i = (g i || h i)) (h2 : ∀ i, i < n → (g i && h i) = false) : cnt f n = cnt g n + cnt h n := by
  induction n with
  | zero => rfl
  | succ n ih =>
    simp only [cnt]
    rw [ih (fun i hi => h1 i (by omega)) (fun i hi => h2 i (by omega)), h1 n (by omega)]
    have := h2 n (by omega)
    cases hg : g n <;> cases hh : h n <;> rw [hg, hh] at this <;> simp at this ⊢ <;> omega
theorem ahd_total {L : Nat → Int} {i j : Nat} (h : i ≠ j) : ahd L i j = true ∨ ahd L j i = true := by
  unfold ahd
  simp only [Bool.or_eq_true, Bool.and_eq_true, decide_eq_true_eq]
  omega

theorem fair_sub {I U V V' : Nat → Bool} {L : Nat → Int} {n : Nat} (h : Fair I U V L n) (h' : Fair I U V' L n) : ∀ i, i < n → V i = true → V' i = true := by
  intro i hi hv
  cases hv' : V' i
  · exfalso
    have hU : U i = false := by
      cases hu : U i
      · rfl
      · rw [h'.up i hi hu] at hv'; cases hv'
    have hI : I i = true := by
      rcases h.of i hi hv with e | e
      · rw [hU] at e; cases e
      · exact e
    have hw : waits I V' i = true := by simp [waits, hv', hI]
    have h4 : cnt V' n = 4 := by
      rcases h'.full with e | e
      · exact e
      · rw [e i hi] at hw; cases hw
    obtain ⟨j, hj, hj', hjv⟩ := cnt_other (f := V') (g := V) hi hv hv' (by have := h.le; omega)
    have hUj : U j = false := by
      cases hu : U j
      · rfl
      · rw [h.up j hj hu] at hjv; cases hjv
    have hIj : I j = true := by
      rcases h'.of j hj hj' with e | e
      · rw [hUj] at e; cases e
      · exact e
    have wi : waits I U i = true := by simp [waits, hU, hI]
    have wj : waits I U j = true := by simp [waits, hUj, hIj]
    have hne : i ≠ j := fun e => by rw [e, hjv] at hv; cases hv
    rcases ahd_total (L := L) hne with e | e
    · rw [h'.down j i hj hi wj wi e hj'] at hv'; cases hv'
    · rw [h.down i j hi hj wi wj e hv] at hjv; cases hjv
  · rfl
theorem fair_one {I U V V' : Nat → Bool} {L : Nat → Int} {n : Nat} (h : Fair I U V L n) (h' : Fair I U V' L n) : ∀ i, i < n → V i = V' i := by
  intro i hi
  cases hv : V i
  · cases hv' : V' i
    · rfl
    · rw [fair_sub h' h i hi hv'] at hv; cases hv
  · exact (fair_sub h h' i hi hv).symm

theorem ahd_congr {L L' : Nat → Int} {i j : Nat} (h1 : L i = L' i) (h2 : L j = L' j) : ahd L i j = ahd L' i j := by unfold ahd; rw [h1, h2]
theorem waits_congr {I I' U U' : Nat → Bool} {i : Nat} (h1 : I i = I' i) (h2 : U i = U' i) : waits I U i = waits I' U' i := by unfold waits; rw [h1, h2]
theorem fair_congr {I U V I' U' : Nat → Bool} {L L' : Nat → Int} {n : Nat} (h : Fair I U V L n) (hI : ∀ i, i < n → I i = I' i) (hU : ∀ i, i < n → U i = U' i) (hL : ∀ i, i < n → L i = L' i) : Fair I' U' V L' n := by
  refine ⟨fun i hi h1 => h.up i hi (by rw [hU i hi]; exact h1), fun i hi h1 => by rw [← hI i hi, ← hU i hi]; exact h.of i hi h1, h.le, ?_, fun i j hi hj h1 h2 h3 h4 => h.down i j hi hj ?_ ?_ ?_ h4⟩
  · rcases h.full with e | e
    · exact .inl e
    · exact .inr fun i hi => by rw [← e i hi]; exact waits_congr (hI i hi).symm rfl
  · rw [← h1]; exact waits_congr (hI i hi) (hU i hi)
  · rw [← h2]; exact waits_congr (hI j hj) (hU j hj)
  · rw [← h3]; exact ahd_congr (hL j hj) (hL i hi)

theorem fair_count {I U V : Nat → Bool} {L : Nat → Int} {n : Nat} (h : Fair I U V L n) : cnt V n = cnt U n + min (4 - cnt U n) (cnt (waits I U) n) := by
  have e1 : cnt V n = cnt U n + cnt (fun i => V i && waits I U i) n := cnt_split (fun i hi => by
    have h1 := h.up i hi
    have h2 := h.of i hi
    show V i = (U i || (V i && waits I U i))
    unfold waits
    cases hu : U i <;> cases hv : V i <;> cases hii : I i <;> simp_all) (fun i hi => by
    show (U i && (V i && waits I U i)) = false
    unfold waits
    cases U i <;> simp)
  have e2 : cnt (fun i => V i && waits I U i) n ≤ cnt (waits I U) n := cnt_le_of fun i _ hi => by
    have hi' : (V i && waits I U i) = true := hi
    rw [Bool.and_eq_true] at hi'
    exact hi'.2
  rcases h.full with e | e
  · omega
  · have e3 : cnt (fun i => V i && waits I U i) n = cnt (waits I U) n := cnt_congr fun i hi => by
      show (V i && waits I U i) = waits I U i
      have := e i hi
      unfold waits at *
      cases hv : V i <;> cases hu : U i <;> cases hii : I i <;> simp_all
    have := h.le
    omega

theorem fair_inv {I U V : Nat → Bool} {L : Nat → Int} {n k : Nat} (h : Fair I U V L n) (hk : k < n) : 4 ≤ cnt (dlx V k) (n - 1) ∨ cnt (waits (dlx I k) (dlx V k)) (n - 1) = 0 ∨ cnt (dlx V k) (n - 1) = 3 := by
  have e1 : cnt (dlx V k) (n - 1) = cnt (but V k) n := by rw [cnt_dl (by omega), show n - 1 + 1 = n by omega]
  have e2 : cnt (waits (dlx I k) (dlx V k)) (n - 1) = cnt (but (waits I V) k) n := by rw [dlx_waits, cnt_dl (by omega), show n - 1 + 1 = n by omega]
  have e3 := cnt_but (f := V) hk
  have e4 := cnt_but_le (waits I V) k n
  rw [e1, e2]
  rcases h.full with h2 | h2
  · cases hu : V k <;> rw [hu] at e3 <;> simp at e3 <;> omega
  · have := cnt_zero.2 h2; omega
theorem fair_inv0 {I U V : Nat → Bool} {L : Nat → Int} {n : Nat} (h : Fair I U V L n) : 4 ≤ cnt V n ∨ cnt (waits I V) n = 0 ∨ cnt V n = 3 := by
  rcases h.full with e | e
  · left; omega
  · right; left; exact cnt_zero.2 e
theorem fair_same {I U V V' : Nat → Bool} {L : Nat → Int} {n : Nat} (h : Fair I U V L n) (hf : FillTo I V L n V') : V' = V := by
  rcases hf with ⟨_, rfl⟩ | ⟨h3, m, hm, hw, _⟩
  · rfl
  · rcases h.full with e | e
    · omega
    · rw [e m hm] at hw; cases hw

theorem fair_step {I U V V' : Nat → Bool} {L : Nat → Int} {n k : Nat} (h : Fair I U V L n) (hk : k < n) (hf : FillTo (dlx I k) (dlx V k) (dlx L k) (n - 1) V') : Fair (dlx I k) (dlx U k) V' (dlx L k) (n - 1) := by
  have place : ∀ s, s < n - 1 → ∃ i, i < n ∧ i = (if s < k then s else s + 1) ∧ (∀ (α : Type) (f : Nat → α), dlx f k s = f i) := fun s hs => by
    by_cases h1 : s < k
    · exact ⟨s, by omega, by rw [if_pos h1], fun α f => by unfold dlx; rw [if_pos h1]⟩
    · exact ⟨s + 1, by omega, by rw [if_neg h1], fun α f => by unfold dlx; rw [if_neg h1]⟩
  have e1 : cnt (dlx V k) (n - 1) = cnt (but V k) n := by rw [cnt_dl (by omega), show n - 1 + 1 = n by omega]
  have e4 := cnt_but_le V k n
  have hle := h.le
  have hup : ∀ i, i < n - 1 → dlx U k i = true → dlx V k i = true := fun i hi hu => by
    obtain ⟨j, hj, _, hd⟩ := place i hi
    rw [hd] at hu ⊢; exact h.up j hj hu
  have hof : ∀ i, i < n - 1 → dlx V k i = true → dlx U k i = true ∨ dlx I k i = true := fun i hi hv => by
    obtain ⟨j, hj, _, hd⟩ := place i hi
    rw [hd] at hv; rw [hd, hd]; exact h.of j hj hv
  have hdown : ∀ i j, i < n - 1 → j < n - 1 → waits (dlx I k) (dlx U k) i = true → waits (dlx I k) (dlx U k) j = true → ahd (dlx L k) j i = true → dlx V k i = true → dlx V k j = true := fun i j hi hj h1 h2 h3 h4 => by
    obtain ⟨a, ha, ea, hda⟩ := place i hi
    obtain ⟨b, hb, eb, hdb⟩ := place j hj
    rw [dlx_waits, hda] at h1
    rw [dlx_waits, hdb] at h2
    rw [hda] at h4
    rw [hdb]
    refine h.down a b ha hb h1 h2 ?_ h4
    unfold ahd at h3 ⊢
    rw [hda Int L, hdb Int L] at h3
    simp only [Bool.or_eq_true, Bool.and_eq_true, decide_eq_true_eq] at h3 ⊢
    rcases h3 with h3 | ⟨h3, h3'⟩
    · exact .inl h3
    · refine .inr ⟨h3, ?_⟩
      rw [ea, eb]; split <;> split <;> omega
  rcases hf with ⟨h1, rfl⟩ | ⟨h3, m, hm, hw, hleast, rfl⟩
  · refine ⟨hup, hof, by omega, ?_, hdown⟩
    rcases h1 with h1 | h1
    · left; omega
    · right; exact cnt_zero.1 h1
  · have hm' : dlx V k m = false ∧ dlx I k m = true := by
      unfold waits at hw
      simpa using hw
    have hsub : ∀ i, dlx V k i = true → turn (dlx V k) m i = true := fun i hv => by
      unfold turn; split
      · rfl
      · exact hv
    have hc4 : cnt (turn (dlx V k) m) (n - 1) = 4 := by
      have e5 := cnt_but (f := turn (dlx V k) m) hm
      have e6 : cnt (but (turn (dlx V k) m) m) (n - 1) = cnt (dlx V k) (n - 1) := cnt_congr fun i _ => by
        unfold but turn
        by_cases e : i = m
        · subst e; rw [hm'.1]; simp
        · simp [e]
      have e7 : turn (dlx V k) m m = true := by simp [turn]
      rw [e6, e7] at e5
      simp at e5
      omega
    refine ⟨fun i hi hu => hsub i (hup i hi hu), fun i hi hv => ?_, by omega, .inl hc4, fun i j hi hj h1 h2 h3' h4 => ?_⟩
    · by_cases e : i = m
      · subst e; exact .inr hm'.2
      · have : turn (dlx V k) m i = dlx V k i := by simp [turn, e]
        rw [this] at hv
        exact hof i hi hv
    · by_cases ej : j = m
      · simp [turn, ej]
      · have ej' : turn (dlx V k) m j = dlx V k j := by simp [turn, ej]
        rw [ej']
        by_cases ei : i = m
        · subst ei
          cases hvj : dlx V k j
          · have hwj : waits (dlx I k) (dlx V k) j = true := by
              unfold waits at h2 ⊢
              rw [hvj]
              simp at h2 ⊢
              exact h2.2
            have := ahd_asymm (hleast j hj hwj ej)
            rw [this] at h3'; cases h3'
          · rfl
        · have ei' : turn (dlx V k) m i = dlx V k i := by simp [turn, ei]
          rw [ei'] at h4
          exact hdown i j hi hj h1 h2 h3' h4

/-- e lists the members of A below n, in order; there are m. -/
structure Lst (A : Nat → Bool) (n m : Nat) (e : Nat → Nat) : Prop where
  len : m = cnt A n
  at_ : ∀ i, i < n → A i = true → e (cnt A i) = i
theorem cnt_all (n : Nat) : cnt (fun _ => true) n = n := by
  induction n with
  | zero => rfl
  | succ n ih => simp only [cnt]; rw [ih]; simp
theorem lst_all (n : Nat) : Lst (fun _ => true) n n (fun i => i) := ⟨(cnt_all n).symm, fun i _ _ => cnt_all i⟩
theorem cnt_mono (f : Nat → Bool) {i j : Nat} (h : i ≤ j) : cnt f i ≤ cnt f j := by
  induction j with
  | zero => obtain rfl : i = 0 := by omega
            exact Nat.le_refl _
  | succ j ih =>
    by_cases e : i = j + 1
    · subst e; exact Nat.le_refl _
    · have := ih (by omega)
      simp only [cnt]; omega
theorem cnt_step {f : Nat → Bool} {i j : Nat} (h : i < j) (hf : f i = true) : cnt f i < cnt f j := by
  have := cnt_mono f (show i + 1 ≤ j by omega)
  simp only [cnt] at this
  rw [hf] at this
  simp at this
  omega
theorem cnt_lt {f : Nat → Bool} {i n : Nat} (h : i < n) (hf : f i = true) : cnt f i < cnt f n := cnt_step h hf
theorem cnt_but_low {f : Nat → Bool} {k i : Nat} (h : i ≤ k) : cnt (but f k) i = cnt f i := cnt_congr fun j hj => by
  unfold but
  have : j ≠ k := by omega
  simp [this]
theorem lst_but {A : Nat → Bool} {n m k : Nat} {e : Nat → Nat} (h : Lst A n m e) (hk : k < n) (hA : A k = true) : Lst (but A k) n (m - 1) (dl e (cnt A k)) := by
  refine ⟨?_, fun i hi hAi => ?_⟩
  · have := cnt_but (f := A) hk
    rw [hA] at this
    simp at this
    have := h.len
    omega
  · have hne : i ≠ k := fun e => by simp [but, e] at hAi
    have hA' : A i = true := by simpa [but, hne] using hAi
    have h1 := h.at_ i hi hA'
    by_cases hlt : i < k
    · rw [cnt_but_low (by omega)]
      unfold dl
      rw [if_pos (cnt_step hlt hA')]
      exact h1
    · have hgt : k < i := by omega
      have h2 := cnt_but (f := A) hgt
      rw [hA] at h2
      simp at h2
      have h3 := cnt_step hgt hA
      unfold dl
      rw [if_neg (by omega), ← h2]
      exact h1
theorem cnt_at {A : Nat → Bool} {n t : Nat} (h : t < cnt A n) : ∃ i, i < n ∧ A i = true ∧ cnt A i = t := by
  induction n with
  | zero => simp [cnt] at h
  | succ n ih =>
    by_cases h1 : t < cnt A n
    · obtain ⟨i, h2, h3⟩ := ih h1
      exact ⟨i, by omega, h3⟩
    · simp only [cnt] at h
      cases hA : A n
      · rw [hA] at h; simp at h; omega
      · rw [hA] at h; simp at h
        exact ⟨n, by omega, hA, by omega⟩
theorem lst_mem {A : Nat → Bool} {n m t : Nat} {e : Nat → Nat} (h : Lst A n m e) (ht : t < m) : ∃ i, i < n ∧ A i = true ∧ cnt A i = t ∧ e t = i := by
  obtain ⟨i, h1, h2, h3⟩ := cnt_at (A := A) (n := n) (t := t) (by have := h.len; omega)
  exact ⟨i, h1, h2, h3, by rw [← h3]; exact h.at_ i h1 h2⟩
theorem lst_one {A : Nat → Bool} {n m m' : Nat} {e e' : Nat → Nat} (h : Lst A n m e) (h' : Lst A n m' e') : m = m' ∧ ∀ t, t < m → e t = e' t := by
  refine ⟨by rw [h.len, h'.len], fun t ht => ?_⟩
  obtain ⟨i, h1, h2, h3, h4⟩ := lst_mem h ht
  rw [h4, ← h3]; exact (h'.at_ i h1 h2).symm
theorem cnt_lst {A f g : Nat → Bool} {n : Nat} (h : ∀ i, i < n → A i = true → f (cnt A i) = g i) : cnt f (cnt A n) = cnt (fun i => A i && g i) n := by
  induction n with
  | zero => rfl
  | succ n ih =>
    have ih' := ih (fun i hi => h i (by omega))
    simp only [cnt]
    by_cases hA : A n = true
    · have h1 := h n (by omega) hA
      simp [hA, cnt, ih', h1]
    · rw [Bool.not_eq_true] at hA
      simp [hA, ih']
end Go.Proofs.Qxb6616745a
