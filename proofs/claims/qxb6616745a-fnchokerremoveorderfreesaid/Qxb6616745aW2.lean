import Derived.Test.Qxb6616745aW1
import Derived.Test.Qxb6616745aV3
namespace Go.Proofs.Qxb6616745a
open Go.RowKit

/-- The blocks that a removal may turn. -/
def Own (c g n : Nat) (p : Nat → Nat) (b : Nat) : Prop := b = c ∨ b = g ∨ ∃ i, i < n ∧ b = p i

/-- A choker of which those in A are left. -/
structure Q4 (w : World) (n c g : Nat) (p : Nat → Nat) (A I U : Nat → Bool) (L : Nat → Int) (o : Nat) : Prop where
  st : ∃ m e V, Lst A n m e ∧ Cs w c g m n (.pointer none) 0 (fun t => p (e t)) (fun t => I (e t)) V (fun t => L (e t)) ∧ Fair (fun t => I (e t)) (fun t => U (e t)) V (fun t => L (e t)) m
  inc : ∀ i j, i < j → j < n → p i < p j
  iss : ∀ i, i < n → IsS w (p i)
  pc : ∀ i, i < n → p i ≠ c
  pg : ∀ i, i < n → p i ≠ g
  ois : IsS w o
  oo : ¬ Own c g n p o

theorem iss_block {w w' : World} {b : Nat} (h : IsS w b) (he : w'.heap[b]? = w.heap[b]?) : IsS w' b := by
  obtain ⟨i, u, l, h⟩ := h
  exact ⟨i, u, l, sl_block h he⟩
theorem iss_lt {w : World} {b : Nat} (h : IsS w b) : b < w.heap.size := by
  obtain ⟨i, u, l, h⟩ := h
  exact h.lt

section
variable {w w' : World} {n c g : Nat} {p : Nat → Nat} {A I U : Nat → Bool} {L : Nat → Int} {o : Nat}

theorem q4_keep (h : Q4 w n c g p A I U L o) (hk : ∀ b, Own c g n p b ∨ b = o → b < w.heap.size → w'.heap[b]? = w.heap[b]?) : Q4 w' n c g p A I U L o := by
  obtain ⟨m, e, V, hl, hcs, hf⟩ := h.st
  have hown : ∀ t, t < m → Own c g n p (p (e t)) := fun t ht => by
    obtain ⟨i, hi, _, _, he⟩ := lst_mem hl ht
    exact .inr (.inr ⟨i, hi, by rw [he]⟩)
  refine ⟨⟨m, e, V, hl, ⟨?_, rw_block hcs.row (hk g (.inl (.inr (.inl rfl))) hcs.row.lt), fun t ht => sl_block (hcs.sls t ht) (hk _ (.inl (hown t ht)) (hcs.sls t ht).lt), hcs.inc, hcs.pc, hcs.pg, hcs.cg⟩, hf⟩, h.inc, fun i hi => iss_block (h.iss i hi) (hk _ (.inl (.inr (.inr ⟨i, hi, rfl⟩))) (iss_lt (h.iss i hi))), h.pc, h.pg, iss_block h.ois (hk o (.inr rfl) (iss_lt h.ois)), h.oo⟩
  have h1 := hcs.ck
  have h2 := h1.lt
  unfold Ck at *
  rw [hk c (.inl (.inl rfl)) h2]; exact h1

theorem fr_wide {m : Nat} {e : Nat → Nat} (hl : Lst A n m e) (h : Fr w w' c g m (fun t => p (e t))) : Fr w w' c g n p :=
  ⟨h.size, h.os, h.tape, h.output, fun b h1 h2 h3 h4 => h.block b h1 h2 h3 fun t ht => by
    obtain ⟨i, hi, _, _, he⟩ := lst_mem hl ht
    show b ≠ p (e t)
    rw [he]; exact h4 i hi⟩
theorem inc_ne (hinc : ∀ i j, i < j → j < n → p i < p j) {i j : Nat} (hi : i < n) (hj : j < n) (h : i ≠ j) : p i ≠ p j := by
  rcases Nat.lt_or_gt_of_ne h with h1 | h1
  · have := hinc i j h1 hj; omega
  · have := hinc j i h1 hi; omega
theorem lst_dead {m : Nat} {e : Nat → Nat} (hl : Lst A n m e) (hinc : ∀ i j, i < j → j < n → p i < p j) {i : Nat} (hi : i < n) (hA : A i = false) : ∀ t, t < m → p (e t) ≠ p i := fun t ht => by
  obtain ⟨j, hj, hj', _, he⟩ := lst_mem hl ht
  rw [he]
  exact inc_ne hinc hj hi fun e => by rw [e, hA] at hj'; cases hj'
theorem dl_comp (f e : Nat → Nat) (k : Nat) : dl (fun t => f (e t)) k = fun t => f (dl e k t) := by
  funext t; unfold dl; split <;> rfl
theorem dlx_comp {α : Type} (f : Nat → α) (e : Nat → Nat) (k : Nat) : dlx (fun t => f (e t)) k = fun t => f (dl e k t) := by
  funext t; unfold dlx dl; split <;> rfl

theorem q4_same (h : Q4 w n c g p A I U L o) {m : Nat} {e V : _} (hl : Lst A n m e) (hcs : Cs w' c g m n (.pointer none) 0 (fun t => p (e t)) (fun t => I (e t)) V (fun t => L (e t))) (hf : Fair (fun t => I (e t)) (fun t => U (e t)) V (fun t => L (e t)) m) (hfr : Fr w w' c g m (fun t => p (e t))) :
    Q4 w' n c g p A I U L o := by
  refine ⟨⟨m, e, V, hl, hcs, hf⟩, h.inc, fun i hi => ?_, h.pc, h.pg, ?_, h.oo⟩
  · cases hA : A i
    · exact iss_block (h.iss i hi) (hfr.block _ (iss_lt (h.iss i hi)) (h.pc i hi) (h.pg i hi) fun t ht e => lst_dead hl h.inc hi hA t ht e.symm)
    · have ht : cnt A i < m := by rw [hl.len]; exact cnt_lt hi hA
      have h1 := (hcs.sls _ ht).is
      simp only [hl.at_ i hi hA] at h1
      exact h1
  · have hfr' := fr_wide hl hfr
    exact iss_block h.ois (hfr'.block o (iss_lt h.ois) (fun e => h.oo (.inl e)) (fun e => h.oo (.inr (.inl e))) fun i hi e => h.oo (.inr (.inr ⟨i, hi, e⟩)))

theorem q4_out (h : Q4 w n c g p A I U L o) (hn : n ≤ 4096) : Calls Try.prog 11 #[pv c, pv o] w fun e w' => e = .returned (.tuple #[]) ∧ Q4 w' n c g p A I U L o ∧ Fr w w' c g n p := by
  obtain ⟨m, e, V, hl, hcs, hf⟩ := h.st
  have hmn : m ≤ n := by rw [hl.len]; exact cnt_le _ _
  refine zzRemove c o w _ ?_
  refine (remove_miss c g m n o _ 0 _ _ _ _ w hcs h.ois (fun t ht => ?_) (by omega) (fair_inv0 hf)).mono ?_
  · obtain ⟨i, hi, _, _, he⟩ := lst_mem hl ht
    show p (e t) ≠ o
    rw [he]
    exact fun e => h.oo (.inr (.inr ⟨i, hi, e.symm⟩))
  · rintro e' w' ⟨rfl, U', hfil, hcs', hfr⟩
    obtain rfl := fair_same hf hfil
    exact ⟨rfl, q4_same h hl hcs' hf hfr, fr_wide hl hfr⟩

theorem q4_hit (h : Q4 w n c g p A I U L o) (hn : n ≤ 4096) (k : Nat) (hk : k < n) : Calls Try.prog 11 #[pv c, pv (p k)] w fun e w' => e = .returned (.tuple #[]) ∧ Q4 w' n c g p (but A k) I U L o ∧ Fr w w' c g n p := by
  obtain ⟨m, e, V, hl, hcs, hf⟩ := h.st
  have hmn : m ≤ n := by rw [hl.len]; exact cnt_le _ _
  refine zzRemove c (p k) w _ ?_
  cases hA : A k
  · refine (remove_miss c g m n (p k) _ 0 _ _ _ _ w hcs (h.iss k hk) (lst_dead hl h.inc hk hA) (by omega) (fair_inv0 hf)).mono ?_
    rintro e' w' ⟨rfl, U', hfil, hcs', hfr⟩
    obtain rfl := fair_same hf hfil
    have eA : but A k = A := by
      funext i
      unfold but
      by_cases e : i = k
      · subst e; rw [hA]; simp
      · simp [e]
    rw [eA]
    exact ⟨rfl, q4_same h hl hcs' hf hfr, fr_wide hl hfr⟩
  · have ht0 : cnt A k < m := by rw [hl.len]; exact cnt_lt hk hA
    have he0 : e (cnt A k) = k := hl.at_ k hk hA
    have ep : pv (p k) = pv ((fun t => p (e t)) (cnt A k)) := by simp only [he0]
    rw [ep]
    refine (remove_hit c g m n (cnt A k) _ 0 _ _ _ _ w hcs ht0 (by omega) (fair_inv hf ht0)).mono ?_
    rintro e' w' ⟨rfl, U', hfil, hcs', htg, hfr⟩
    have hf' := fair_step hf ht0 hfil
    rw [dl_comp, dlx_comp I, dlx_comp L] at hcs'
    rw [dlx_comp I, dlx_comp U, dlx_comp L] at hf'
    have hl' := lst_but hl hk hA
    refine ⟨rfl, ⟨⟨m - 1, dl e (cnt A k), U', hl', hcs', hf'⟩, h.inc, fun i hi => ?_, h.pc, h.pg, ?_, h.oo⟩, fr_wide hl hfr⟩
    · cases hA' : but A k i
      · by_cases eik : i = k
        · have h1 := htg.is
          simp only [he0] at h1
          rw [eik]; exact h1
        · have hAi : A i = false := by simpa [but, eik] using hA'
          exact iss_block (h.iss i hi) (hfr.block _ (iss_lt (h.iss i hi)) (h.pc i hi) (h.pg i hi) fun t ht e => lst_dead hl h.inc hi hAi t ht e.symm)
      · have ht : cnt (but A k) i < m - 1 := by rw [hl'.len]; exact cnt_lt hi hA'
        have h1 := (hcs'.sls _ ht).is
        simp only [hl'.at_ i hi hA'] at h1
        exact h1
    · have hfr' := fr_wide hl hfr
      exact iss_block h.ois (hfr'.block o (iss_lt h.ois) (fun e => h.oo (.inl e)) (fun e => h.oo (.inr (.inl e))) fun i hi e => h.oo (.inr (.inr ⟨i, hi, e⟩)))
end

/-- Both chokers, ahead of and between the removals. -/
structure Z4 (w : World) (N : Nat) (a0 : Option Addr) (n : Nat) (I U : Nat → Bool) (L : Nat → Int) (gp1 g1 c1 : Nat) (p1 : Nat → Nat) (o1 : Nat) (A1 : Nat → Bool) (gp2 g2 c2 : Nat) (p2 : Nat → Nat) (o2 : Nat) (A2 : Nat → Bool) : Prop where
  inp : In w N a0 n I U L
  size : N ≤ w.heap.size
  ptr1 : Rw w gp1 n n p1
  ptr2 : Rw w gp2 n n p2
  q1 : Q4 w n c1 g1 p1 A1 I U L o1
  q2 : Q4 w n c2 g2 p2 A2 I U L o2
  lo1 : ∀ b, Own c1 g1 n p1 b → N ≤ b
  lo2 : ∀ b, Own c2 g2 n p2 b → N ≤ b
  sep : ∀ b, Own c1 g1 n p1 b → ¬ Own c2 g2 n p2 b
  r1 : ¬ Own c1 g1 n p1 gp1 ∧ ¬ Own c1 g1 n p1 gp2 ∧ ¬ Own c1 g1 n p1 o2
  r2 : ¬ Own c2 g2 n p2 gp2 ∧ ¬ Own c2 g2 n p2 gp1 ∧ ¬ Own c2 g2 n p2 o1

section
variable {w : World} {N : Nat} {a0 : Option Addr} {n : Nat} {I U : Nat → Bool} {L : Nat → Int} {gp1 g1 c1 : Nat} {p1 : Nat → Nat} {o1 : Nat} {A1 : Nat → Bool} {gp2 g2 c2 : Nat} {p2 : Nat → Nat} {o2 : Nat} {A2 : Nat → Bool}

theorem Z4.swap (h : Z4 w N a0 n I U L gp1 g1 c1 p1 o1 A1 gp2 g2 c2 p2 o2 A2) : Z4 w N a0 n I U L gp2 g2 c2 p2 o2 A2 gp1 g1 c1 p1 o1 A1 :=
  ⟨h.inp, h.size, h.ptr2, h.ptr1, h.q2, h.q1, h.lo2, h.lo1, fun b h1 h2 => h.sep b h2 h1, h.r2, h.r1⟩

theorem fr_at {w w' : World} {c g n : Nat} {p : Nat → Nat} (h : Fr w w' c g n p) {b : Nat} (hb : b < w.heap.size) (ho : ¬ Own c g n p b) : w'.heap[b]? = w.heap[b]? :=
  h.block b hb (fun e => ho (.inl e)) (fun e => ho (.inr (.inl e))) fun i hi e => ho (.inr (.inr ⟨i, hi, e⟩))

theorem z4_step (h : Z4 w N a0 n I U L gp1 g1 c1 p1 o1 A1 gp2 g2 c2 p2 o2 A2) {b : Nat} {A' : Nat → Bool} (hc : Calls Try.prog 11 #[pv c1, pv b] w fun e w' => e = .returned (.tuple #[]) ∧ Q4 w' n c1 g1 p1 A' I U L o1 ∧ Fr w w' c1 g1 n p1) :
    Calls Try.prog 11 #[pv c1, pv b] w fun e w' => e = .returned (.tuple #[]) ∧ Z4 w' N a0 n I U L gp1 g1 c1 p1 o1 A' gp2 g2 c2 p2 o2 A2 ∧ Below N w w' := by
  refine hc.mono ?_
  rintro e w' ⟨rfl, hq, hf⟩
  have hb : Below N w w' := ⟨hf.os, hf.tape, hf.output, hf.size, fun b hb => fr_at hf (Nat.lt_of_lt_of_le hb h.size) fun ho => by have := h.lo1 b ho; omega⟩
  refine ⟨rfl, ⟨h.inp.below hb, Nat.le_trans h.size hf.size, rw_block h.ptr1 (fr_at hf h.ptr1.lt h.r1.1), rw_block h.ptr2 (fr_at hf h.ptr2.lt h.r1.2.1), hq, q4_keep h.q2 fun b ho hlt => fr_at hf hlt ?_, h.lo1, h.lo2, h.sep, h.r1, h.r2⟩, hb⟩
  rcases ho with ho | rfl
  · exact fun h' => h.sep b h' ho
  · exact h.r1.2.2

theorem z4_hit1 (h : Z4 w N a0 n I U L gp1 g1 c1 p1 o1 A1 gp2 g2 c2 p2 o2 A2) (hn : n ≤ 4096) (k : Nat) (hk : k < n) :
    Calls Try.prog 11 #[pv c1, pv (p1 k)] w fun e w' => e = .returned (.tuple #[]) ∧ Z4 w' N a0 n I U L gp1 g1 c1 p1 o1 (but A1 k) gp2 g2 c2 p2 o2 A2 ∧ Below N w w' := z4_step h (q4_hit h.q1 hn k hk)
theorem z4_out1 (h : Z4 w N a0 n I U L gp1 g1 c1 p1 o1 A1 gp2 g2 c2 p2 o2 A2) (hn : n ≤ 4096) :
    Calls Try.prog 11 #[pv c1, pv o1] w fun e w' => e = .returned (.tuple #[]) ∧ Z4 w' N a0 n I U L gp1 g1 c1 p1 o1 A1 gp2 g2 c2 p2 o2 A2 ∧ Below N w w' := z4_step h (q4_out h.q1 hn)
theorem z4_hit2 (h : Z4 w N a0 n I U L gp1 g1 c1 p1 o1 A1 gp2 g2 c2 p2 o2 A2) (hn : n ≤ 4096) (k : Nat) (hk : k < n) :
    Calls Try.prog 11 #[pv c2, pv (p2 k)] w fun e w' => e = .returned (.tuple #[]) ∧ Z4 w' N a0 n I U L gp1 g1 c1 p1 o1 A1 gp2 g2 c2 p2 o2 (but A2 k) ∧ Below N w w' :=
  (z4_hit1 h.swap hn k hk).mono fun _ _ ⟨he, hz, hb⟩ => ⟨he, hz.swap, hb⟩
theorem z4_out2 (h : Z4 w N a0 n I U L gp1 g1 c1 p1 o1 A1 gp2 g2 c2 p2 o2 A2) (hn : n ≤ 4096) :
    Calls Try.prog 11 #[pv c2, pv o2] w fun e w' => e = .returned (.tuple #[]) ∧ Z4 w' N a0 n I U L gp1 g1 c1 p1 o1 A1 gp2 g2 c2 p2 o2 A2 ∧ Below N w w' :=
  (z4_out1 h.swap hn).mono fun _ _ ⟨he, hz, hb⟩ => ⟨he, hz.swap, hb⟩
end

/-- What stands behind the removals, as the loops read it. -/
structure M4 (w : World) (N : Nat) (a0 : Option Addr) (n : Nat) (I : Nat → Bool) (U : Nat → Bool) (L : Nat → Int) (gp1 g1 c1 : Nat) (p1 q1 : Nat → Nat) (gp2 g2 c2 : Nat) (p2 q2 : Nat → Nat) (m : Nat) (A V : Nat → Bool) : Prop where
  inp : In w N a0 n I U L
  size : N ≤ w.heap.size
  ptr1 : Rw w gp1 n n p1
  ptr2 : Rw w gp2 n n p2
  row1 : Rw w g1 n m q1
  row2 : Rw w g2 n m q2
  ck1 : Ck w c1 (.slice (some ⟨g1, 0, none⟩) m n) (.pointer none) 0
  ck2 : Ck w c2 (.slice (some ⟨g2, 0, none⟩) m n) (.pointer none) 0
  sl1 : ∀ i, i < n → A i = true → Sl w (p1 i) (I i) (V i) (L i)
  sl2 : ∀ i, i < n → A i = true → Sl w (p2 i) (I i) (V i) (L i)
/-- The plain facts of it. -/
structure F4 (n : Nat) (I U A V : Nat → Bool) (m : Nat) (p1 q1 p2 q2 : Nat → Nat) : Prop where
  len : m = cnt A n
  at1 : ∀ i, i < n → A i = true → q1 (cnt A i) = p1 i
  at2 : ∀ i, i < n → A i = true → q2 (cnt A i) = p2 i
  up : ∀ i, i < n → A i = true → U i = true → V i = true
  count : cnt (fun i => A i && V i) n = cnt (fun i => A i && U i) n + min (4 - cnt (fun i => A i && U i) n) (cnt (fun i => A i && waits I U i) n)

theorem z4_end {w : World} {N : Nat} {a0 : Option Addr} {n : Nat} {I U : Nat → Bool} {L : Nat → Int} {gp1 g1 c1 : Nat} {p1 : Nat → Nat} {o1 : Nat} {A A1 A2 : Nat → Bool} {gp2 g2 c2 : Nat} {p2 : Nat → Nat} {o2 : Nat}
    (h : Z4 w N a0 n I U L gp1 g1 c1 p1 o1 A1 gp2 g2 c2 p2 o2 A2) (e1 : A1 = A) (e2 : A2 = A) : ∃ m q1 q2 V, M4 w N a0 n I U L gp1 g1 c1 p1 q1 gp2 g2 c2 p2 q2 m A V ∧ F4 n I U A V m p1 q1 p2 q2 := by
  subst e1
  subst e2
  obtain ⟨m, e, V, hl, hcs, hf⟩ := h.q1.st
  obtain ⟨m', e', V', hl', hcs', hf'⟩ := h.q2.st
  obtain ⟨rfl, hee⟩ := lst_one hl hl'
  have hVV : ∀ t, t < m → V t = V' t := fair_one hf (fair_congr hf' (fun t ht => by rw [hee t ht]) (fun t ht => by rw [hee t ht]) (fun t ht => by rw [hee t ht]))
  have hlt : ∀ i, i < n → A2 i = true → cnt A2 i < m := fun i hi hA => by rw [hl.len]; exact cnt_lt hi hA
  refine ⟨m, fun t => p1 (e t), fun t => p2 (e' t), fun i => V (cnt A2 i), ⟨h.inp, h.size, h.ptr1, h.ptr2, hcs.row, hcs'.row, hcs.ck, hcs'.ck, fun i hi hA => ?_, fun i hi hA => ?_⟩, ⟨hl.len, fun i hi hA => ?_, fun i hi hA => ?_, fun i hi hA hu => ?_, ?_⟩⟩
  · have h1 := hcs.sls _ (hlt i hi hA)
    simp only [hl.at_ i hi hA] at h1
    exact h1
  · have h1 := hcs'.sls _ (hlt i hi hA)
    simp only [hl'.at_ i hi hA] at h1
    rw [hVV _ (hlt i hi hA)]
    exact h1
  · simp only [hl.at_ i hi hA]
  · simp only [hl'.at_ i hi hA]
  · exact hf.up _ (hlt i hi hA) (by simp only [hl.at_ i hi hA]; exact hu)
  · have hc := fair_count hf
    rw [hl.len] at hc
    rw [cnt_lst (g := fun i => V (cnt A2 i)) (fun i _ _ => rfl), cnt_lst (f := fun t => U (e t)) (g := U) (fun i hi hA => by simp only [hl.at_ i hi hA]), cnt_lst (f := waits (fun t => I (e t)) (fun t => U (e t))) (g := waits I U) (fun i hi hA => by simp only [waits, hl.at_ i hi hA])] at hc
    exact hc

theorem M4.grown {w w' : World} {N : Nat} {a0 : Option Addr} {n : Nat} {I U : Nat → Bool} {L : Nat → Int} {gp1 g1 c1 : Nat} {p1 q1 : Nat → Nat} {gp2 g2 c2 : Nat} {p2 q2 : Nat → Nat} {m : Nat} {A V : Nat → Bool}
    (h : M4 w N a0 n I U L gp1 g1 c1 p1 q1 gp2 g2 c2 p2 q2 m A V) (hg : w.grownBy w' none) : M4 w' N a0 n I U L gp1 g1 c1 p1 q1 gp2 g2 c2 p2 q2 m A V :=
  ⟨h.inp.below (below_grown hg h.size (by simp)), Nat.le_trans h.size hg.size, h.ptr1.grown hg (by simp), h.ptr2.grown hg (by simp), h.row1.grown hg (by simp), h.row2.grown hg (by simp), h.ck1.grown hg (by simp), h.ck2.grown hg (by simp), fun i hi hA => (h.sl1 i hi hA).grown hg (by simp), fun i hi hA => (h.sl2 i hi hA).grown hg (by simp)⟩
theorem M4.drewN {w : World} {N : Nat} {a0 : Option Addr} {n : Nat} {I U : Nat → Bool} {L : Nat → Int} {gp1 g1 c1 : Nat} {p1 q1 : Nat → Nat} {gp2 g2 c2 : Nat} {p2 q2 : Nat → Nat} {m : Nat} {A V : Nat → Bool}
    (h : M4 w N a0 n I U L gp1 g1 c1 p1 q1 gp2 g2 c2 p2 q2 m A V) (k : Nat) : M4 (w.drewN k) N a0 n I U L gp1 g1 c1 p1 q1 gp2 g2 c2 p2 q2 m A V := h.grown (grown_drewN (grown_refl _ _) _)

theorem own_of {c g n : Nat} {p : Nat → Nat} {b lo hi : Nat} (h : Own c g n p b) (hc : lo ≤ c ∧ c < hi) (hg : lo ≤ g ∧ g < hi) (hp : ∀ i, i < n → lo ≤ p i ∧ p i < hi) : lo ≤ b ∧ b < hi := by
  rcases h with rfl | rfl | ⟨i, hi', rfl⟩
  · exact hc
  · exact hg
  · exact hp i hi'

theorem z4_mk {w w0 w1 w2 w3 w4 w5 w6 w7 w8 : World} {N : Nat} {a0 : Option Addr} {n : Nat} {I U : Nat → Bool} {L : Nat → Int} {gp1 gc1 c1 b1 gp2 gc2 c2 b2 : Nat} {p1 p2 : Nat → Nat} {oi ou : Bool} {ol : Int}
    (hN : N ≤ w.heap.size) (hg : w.grownBy w0 none) (hi : In w N a0 n I U L) (hv : InvB I U n = true)
    (hgp1 : w0.heap.size ≤ gp1) (hg1 : w0.grownBy w1 none) (hrp1 : Rw w1 gp1 n n p1) (hsl1 : Sls w1 n p1 I U L) (hinc1 : ∀ i j, i < j → j < n → p1 i < p1 j) (hpg1 : ∀ i, i < n → gp1 < p1 i)
    (hb1 : w1.heap.size ≤ b1) (hsb1 : Sl w2 b1 oi ou ol) (hg2 : w1.grownBy w2 none)
    (hgp2 : w2.heap.size ≤ gp2) (hg3 : w2.grownBy w3 none) (hrp2 : Rw w3 gp2 n n p2) (hsl2 : Sls w3 n p2 I U L) (hinc2 : ∀ i j, i < j → j < n → p2 i < p2 j) (hpg2 : ∀ i, i < n → gp2 < p2 i)
    (hb2 : w3.heap.size ≤ b2) (hsb2 : Sl w4 b2 oi ou ol) (hg4 : w3.grownBy w4 none)
    (hgc1 : w4.heap.size ≤ gc1) (hrc1 : Rw w5 gc1 n n p1) (hg5 : w4.grownBy w5 none)
    (hc1 : w5.heap.size ≤ c1) (hck1 : Ck w6 c1 (.slice (some ⟨gc1, 0, none⟩) n n) (.pointer none) 0) (hg6 : w5.grownBy w6 none)
    (hgc2 : w6.heap.size ≤ gc2) (hrc2 : Rw w7 gc2 n n p2) (hg7 : w6.grownBy w7 none)
    (hc2 : w7.heap.size ≤ c2) (hck2 : Ck w8 c2 (.slice (some ⟨gc2, 0, none⟩) n n) (.pointer none) 0) (hg8 : w7.grownBy w8 none) :
    Z4 w8 N a0 n I U L gp1 gc1 c1 p1 b1 (fun _ => true) gp2 gc2 c2 p2 b2 (fun _ => true) := by
  have g78 := hg8
  have g68 := grown_trans hg7 hg8
  have g58 := grown_trans hg6 g68
  have g48 := grown_trans hg5 g58
  have g38 := grown_trans hg4 g48
  have g28 := grown_trans hg3 g38
  have g18 := grown_trans hg2 g28
  have g08 := grown_trans hg1 g18
  have s0 := hg.size
  have s1 := hg1.size
  have s2 := hg2.size
  have s3 := hg3.size
  have s4 := hg4.size
  have s5 := hg5.size
  have s6 := hg6.size
  have s7 := hg7.size
  have s8 := hg8.size
  have l1 := hrp1.lt
  have l2 := hsb1.lt
  have l3 := hrp2.lt
  have l4 := hsb2.lt
  have l5 := hrc1.lt
  have l6 := hck1.lt
  have l7 := hrc2.lt
  have l8 := hck2.lt
  have hp1 : ∀ i, i < n → gp1 < p1 i ∧ p1 i < w1.heap.size := fun i hi => ⟨hpg1 i hi, (hsl1 i hi).lt⟩
  have hp2 : ∀ i, i < n → gp2 < p2 i ∧ p2 i < w3.heap.size := fun i hi => ⟨hpg2 i hi, (hsl2 i hi).lt⟩
  have own1 : ∀ b, Own c1 gc1 n p1 b → (w4.heap.size ≤ b ∧ b < w6.heap.size) ∨ (gp1 < b ∧ b < w1.heap.size) := fun b h => by
    rcases h with rfl | rfl | ⟨i, hi', rfl⟩
    · left; omega
    · left; omega
    · right; exact hp1 i hi'
  have own2 : ∀ b, Own c2 gc2 n p2 b → w6.heap.size ≤ b ∨ (gp2 < b ∧ b < w3.heap.size) := fun b h => by
    rcases h with rfl | rfl | ⟨i, hi', rfl⟩
    · left; omega
    · left; omega
    · right; exact hp2 i hi'
  have q1 : Q4 w8 n c1 gc1 p1 (fun _ => true) I U L b1 := by
    refine ⟨⟨n, fun i => i, U, lst_all n, ⟨hck1.grown g68 (by simp), hrc1.grown g58 (by simp), hsl1.grown g18 (by simp), hinc1, fun i hi => ?_, fun i hi => ?_, by omega⟩, fair_start hv⟩, hinc1, fun i hi => ((hsl1 i hi).grown g18 (by simp)).is, fun i hi => ?_, fun i hi => ?_, (hsb1.grown g28 (by simp)).is, fun h => ?_⟩
    · show p1 i ≠ c1; have := hp1 i hi; omega
    · show p1 i ≠ gc1; have := hp1 i hi; omega
    · have := hp1 i hi; omega
    · have := hp1 i hi; omega
    · have := own1 _ h; omega
  have q2 : Q4 w8 n c2 gc2 p2 (fun _ => true) I U L b2 := by
    refine ⟨⟨n, fun i => i, U, lst_all n, ⟨hck2, hrc2.grown g78 (by simp), hsl2.grown g38 (by simp), hinc2, fun i hi => ?_, fun i hi => ?_, by omega⟩, fair_start hv⟩, hinc2, fun i hi => ((hsl2 i hi).grown g38 (by simp)).is, fun i hi => ?_, fun i hi => ?_, (hsb2.grown g48 (by simp)).is, fun h => ?_⟩
    · show p2 i ≠ c2; have := hp2 i hi; omega
    · show p2 i ≠ gc2; have := hp2 i hi; omega
    · have := hp2 i hi; omega
    · have := hp2 i hi; omega
    · have := own2 _ h; omega
  refine ⟨hi.below (below_grown (grown_trans hg g08) hN (by simp)), by omega, hrp1.grown g18 (by simp), hrp2.grown g38 (by simp), q1, q2, fun b h => ?_, fun b h => ?_, fun b h h' => ?_, ⟨fun h => ?_, fun h => ?_, fun h => ?_⟩, ⟨fun h => ?_, fun h => ?_, fun h => ?_⟩⟩
  · have := own1 _ h; omega
  · have := own2 _ h; omega
  · have := own1 _ h; have := own2 _ h'; omega
  · have := own1 _ h; omega
  · have := own1 _ h; omega
  · have := own1 _ h; omega
  · have := own2 _ h; omega
  · have := own2 _ h; omega
  · have := own2 _ h; omega

/-- All but two places. -/
def AB (ra rb : Int) (i : Nat) : Bool := !decide ((i : Int) = ra) && !decide ((i : Int) = rb)
theorem ab_hh (a b : Nat) : but (but (fun _ => true) a) b = AB a b := by
  funext i; unfold but AB
  have e1 : decide (i = a) = decide ((i : Int) = a) := by rw [decide_eq_decide]; omega
  have e2 : decide (i = b) = decide ((i : Int) = b) := by rw [decide_eq_decide]; omega
  rw [e1, e2]
  cases decide ((i : Int) = a) <;> cases decide ((i : Int) = b) <;> rfl
theorem ab_swap (ra rb : Int) : AB ra rb = AB rb ra := by
  funext i; unfold AB; rw [Bool.and_comm]
theorem ab_hm (a : Nat) : but (fun _ => true) a = AB a (-1) := by
  funext i; unfold but AB
  have e1 : decide (i = a) = decide ((i : Int) = a) := by rw [decide_eq_decide]; omega
  have e2 : decide ((i : Int) = -1) = false := by rw [decide_eq_false_iff_not]; omega
  rw [e1, e2]; simp
theorem ab_mm : (fun _ => true) = AB (-1) (-1) := by
  funext i; unfold AB
  have e2 : decide ((i : Int) = -1) = false := by rw [decide_eq_false_iff_not]; omega
  rw [e2]; rfl
end Go.Proofs.Qxb6616745a
