import Derived.Test.Qxb6616745aU2
namespace Go.Proofs.Qxb6616745a
open Go.RowKit

def dlx {α : Type} (f : Nat → α) (m : Nat) : Nat → α := fun i => if i < m then f i else f (i + 1)
theorem dl_eq (p : Nat → Nat) (m : Nat) : dl p m = dlx p m := rfl

/-- A choker, its row and its slots. -/
structure Cs (w : World) (c g n cap : Nat) (o : Value) (r : Int) (p : Nat → Nat) (I U : Nat → Bool) (L : Nat → Int) : Prop where
  ck : Ck w c (.slice (some ⟨g, 0, none⟩) n cap) o r
  row : Rw w g cap n p
  sls : Sls w n p I U L
  inc : ∀ i j, i < j → j < n → p i < p j
  pc : ∀ i, i < n → p i ≠ c
  pg : ∀ i, i < n → p i ≠ g
  cg : c ≠ g

/-- Nothing old but the choker, its row and its slots has turned. -/
structure Fr (w w' : World) (c g n : Nat) (p : Nat → Nat) : Prop where
  size : w.heap.size ≤ w'.heap.size
  os : w'.os = w.os
  tape : w'.tape = w.tape
  output : w'.output = w.output
  block : ∀ b, b < w.heap.size → b ≠ c → b ≠ g → (∀ i, i < n → b ≠ p i) → w'.heap[b]? = w.heap[b]?

theorem sl_block {w w' : World} {b : Nat} {i u : Bool} {l : Int} (h : Sl w b i u l) (he : w'.heap[b]? = w.heap[b]?) : Sl w' b i u l := by
  unfold Sl at *; rw [he]; exact h

set_option maxRecDepth 100000 in
set_option maxHeartbeats 2000000 in
theorem remove_miss (c g n cap b : Nat) (o : Value) (r : Int) (p : Nat → Nat) (I U : Nat → Bool) (L : Nat → Int) (w : World) (h : Cs w c g n cap o r p I U L) (hb : IsS w b) (hbn : ∀ i, i < n → p i ≠ b) (hn : n ≤ 4096) (hinv : 4 ≤ cnt U n ∨ cnt (waits I U) n = 0 ∨ cnt U n = 3) :
    Calls Try.prog 21 #[pv c, pv b] w fun e w' => e = .returned (.tuple #[]) ∧ ∃ U', FillTo I U L n U' ∧ Cs w' c g n cap o r p I U' L ∧ Fr w w' c g n p := by
  obtain ⟨hck, hrow, hsls, hinc, hpc, hpg, hcg⟩ := h
  have h0 := hck.c0
  have f0 := hck.fz 0
  have hclt := hck.lt
  have hne : ¬ c = w.heap.size := by omega
  have HCK : Hid (Ck w c (.slice (some ⟨g, 0, none⟩) n cap) o r) := hck
  have HROW : Hid (Rw w g cap n p) := hrow
  have HSLS : Hid (Sls w n p I U L) := hsls
  have HINC : Hid (∀ i j, i < j → j < n → p i < p j) := hinc
  have HPC : Hid (∀ i, i < n → p i ≠ c) := hpc
  have HPG : Hid (∀ i, i < n → p i ≠ g) := hpg
  have HB : Hid (IsS w b) := hb
  have HBN : Hid (∀ i, i < n → p i ≠ b) := hbn
  have HV : Hid (4 ≤ cnt U n ∨ cnt (waits I U) n = 0 ∨ cnt U n = 3) := hinv
  have HA : Hid (w.grownBy (w.alloc (.cells #[pv b] 29)) none) := grown_alloc _ _ _
  clear hck hrow hsls hinc hpc hpg hb hbn hinv
  go_enter Try.func21, Try.ntmps21
  have HG2 : Hid (w.grownBy ((w.setCell ⟨c, 0, none⟩ (.slice (some ⟨g, 0, none⟩) n cap)).alloc (.cells #[pv b] 29)) (some c)) := grown_trans (grown_set _ _ _ _) (grown_alloc _ _ _)
  have HCK2 : Hid (Ck ((w.setCell ⟨c, 0, none⟩ (.slice (some ⟨g, 0, none⟩) n cap)).alloc (.cells #[pv b] 29)) c (.slice (some ⟨g, 0, none⟩) n cap) o r) := (HCK.out.set _).grown (grown_alloc _ _ none) (by simp)
  go_wp2_with (first | (go_at_call 26; refine (delete_miss g cap n b w.heap.size p _ (HROW.out.grown HA.out (by simp)) (new_cell w (pv b) 0 _ rfl) (fun i hi => ((HSLS.out i hi).is).grown HA.out (by simp)) (HB.out.grown HA.out (by simp)) hn HBN.out).mono ?_; rintro e w1 ⟨rfl, rfl⟩) | (go_at_call 28; refine (fill_any c g n cap o r p I U L _ HCK2.out (HROW.out.grown HG2.out (by simpa using fun h => hcg h.symm)) (HSLS.out.grown HG2.out (fun i hi => by simpa using HPC.out i hi)) HINC.out hn HV.out).mono ?_; rintro e w2 ⟨⟨v, rfl⟩, U', hfil, hsl, hsz, hos, htp, hou, hblk⟩))
  go_end0
  refine ⟨rfl, U', hfil, ⟨?_, ?_, hsl, HINC.out, HPC.out, HPG.out, hcg⟩, ⟨Nat.le_trans HG2.out.size hsz, hos.trans HG2.out.os, htp.trans HG2.out.tape, hou.trans HG2.out.output, fun b' h1 h2 h3 h4 => ?_⟩⟩
  · unfold Ck; rw [hblk c (Nat.lt_of_lt_of_le hclt HG2.out.size) (fun i hi h => HPC.out i hi h.symm)]; exact HCK2.out
  · have hr2 := HROW.out.grown HG2.out (by simpa using fun h => hcg h.symm)
    obtain ⟨cur, q1, q2⟩ := hr2
    exact ⟨cur, by rw [hblk g (Nat.lt_of_lt_of_le HROW.out.lt HG2.out.size) (fun i hi h => HPG.out i hi h.symm)]; exact q1, q2⟩
  · rw [hblk b' (Nat.lt_of_lt_of_le h1 HG2.out.size) h4]
    exact HG2.out.block b' h1 (by simpa using h2)

theorem dlx_inc {n m : Nat} {p : Nat → Nat} (h : ∀ i j, i < j → j < n → p i < p j) : ∀ i j, i < j → j < n - 1 → dl p m i < dl p m j := by
  intro i j h1 h2
  unfold dl
  repeat' split
  all_goals exact h _ _ (by omega) (by omega)
theorem dl_at {n m i : Nat} (p : Nat → Nat) (hi : i < n - 1) : ∃ j, j < n ∧ j ≠ m ∧ dl p m i = p j := by
  unfold dl
  by_cases h : i < m
  · exact ⟨i, by omega, by omega, by rw [if_pos h]⟩
  · exact ⟨i + 1, by omega, by omega, by rw [if_neg h]⟩
theorem sls_dl {w : World} {n m : Nat} {p : Nat → Nat} {I U : Nat → Bool} {L : Nat → Int} (h : Sls w n p I U L) : Sls w (n - 1) (dl p m) (dlx I m) (dlx U m) (dlx L m) := by
  intro i hi
  unfold dl dlx
  by_cases h1 : i < m
  · simp only [if_pos h1]; exact h i (by omega)
  · simp only [if_neg h1]; exact h (i + 1) (by omega)

set_option maxRecDepth 100000 in
set_option maxHeartbeats 2000000 in
theorem remove_hit (c g n cap m : Nat) (o : Value) (r : Int) (p : Nat → Nat) (I U : Nat → Bool) (L : Nat → Int) (w : World) (h : Cs w c g n cap o r p I U L) (hm : m < n) (hn : n ≤ 4096) (hinv : 4 ≤ cnt (dlx U m) (n - 1) ∨ cnt (waits (dlx I m) (dlx U m)) (n - 1) = 0 ∨ cnt (dlx U m) (n - 1) = 3) :
    Calls Try.prog 21 #[pv c, pv (p m)] w fun e w' => e = .returned (.tuple #[]) ∧ ∃ U', FillTo (dlx I m) (dlx U m) (dlx L m) (n - 1) U' ∧ Cs w' c g (n - 1) cap o r (dl p m) (dlx I m) U' (dlx L m) ∧ Sl w' (p m) (I m) (U m) (L m) ∧ Fr w w' c g n p := by
  obtain ⟨hck, hrow, hsls, hinc, hpc, hpg, hcg⟩ := h
  have h0 := hck.c0
  have f0 := hck.fz 0
  have hclt := hck.lt
  have hne : ¬ c = w.heap.size := by omega
  have hglt := hrow.lt
  obtain ⟨b, hpb⟩ : ∃ b, p m = b := ⟨_, rfl⟩
  have HCK : Hid (Ck w c (.slice (some ⟨g, 0, none⟩) n cap) o r) := hck
  have HROW : Hid (Rw w g cap n p) := hrow
  have HSLS : Hid (Sls w n p I U L) := hsls
  have HINC : Hid (∀ i j, i < j → j < n → p i < p j) := hinc
  have HPC : Hid (∀ i, i < n → p i ≠ c) := hpc
  have HPG : Hid (∀ i, i < n → p i ≠ g) := hpg
  have HPB : Hid (p m = b) := hpb
  have HV : Hid (4 ≤ cnt (dlx U m) (n - 1) ∨ cnt (waits (dlx I m) (dlx U m)) (n - 1) = 0 ∨ cnt (dlx U m) (n - 1) = 3) := hinv
  have HA : Hid (w.grownBy (w.alloc (.cells #[pv b] 29)) none) := grown_alloc _ _ _
  have hbg : b ≠ g := by rw [← hpb]; exact hpg m hm
  have hbc : b ≠ c := by rw [← hpb]; exact hpc m hm
  have HOTH : Hid (∀ i, i < n → i ≠ m → p i ≠ b) := by
    intro i hi hne
    rw [← hpb]
    rcases Nat.lt_trichotomy i m with h1 | h1 | h1
    · have := hinc i m h1 hm; omega
    · exact absurd h1 hne
    · have := hinc m i h1 hi; omega
  have HIB : Hid (IsS w b) := by rw [← hpb]; exact (hsls m hm).is
  rw [hpb]
  clear hck hrow hsls hinc hpc hpg hinv hpb
  go_enter Try.func21, Try.ntmps21
  go_wp2_with (first | (go_at_call 26; refine (delete_hit g cap n b w.heap.size m p _ (HROW.out.grown HA.out (by simp)) (new_cell w (pv b) 0 _ rfl) (by omega) (fun i hi => ((HSLS.out i hi).is).grown HA.out (by simp)) (HIB.out.grown HA.out (by simp)) HPG.out hbg hn hm HOTH.out HPB.out).mono ?_; rintro e w1 ⟨rfl, hr1, hg1⟩; have HR1 : Hid (Rw w1 g cap (n - 1) (dl p m)) := hr1; have HG1 : Hid (w.grownBy w1 (some g)) := grown_trans (grown_none HA.out _) hg1; have hck1 : Ck w1 c (.slice (some ⟨g, 0, none⟩) n cap) o r := HCK.out.grown HG1.out (by simpa using hcg); have h01 := hck1.c0; have f01 := hck1.fz 0; have HCK1 : Hid (Ck (w1.setCell ⟨c, 0, none⟩ (.slice (some ⟨g, 0, none⟩) (n - 1) cap)) c (.slice (some ⟨g, 0, none⟩) (n - 1) cap) o r) := hck1.set _; have HGS : Hid (w1.grownBy (w1.setCell ⟨c, 0, none⟩ (.slice (some ⟨g, 0, none⟩) (n - 1) cap)) (some c)) := grown_set _ _ _ _; clear hr1 hg1 hck1) | (go_at_call 28; refine (fill_any c g (n - 1) cap o r (dl p m) (dlx I m) (dlx U m) (dlx L m) _ HCK1.out (HR1.out.grown HGS.out (by simpa using fun h => hcg h.symm)) (sls_dl ((HSLS.out.grown HG1.out (fun i hi => by simpa using HPG.out i hi)).grown HGS.out (fun i hi => by simpa using HPC.out i hi))) (dlx_inc HINC.out) (by omega) HV.out).mono ?_; rintro e w2 ⟨⟨v, rfl⟩, U', hfil, hsl, hsz, hos, htp, hou, hblk⟩))
  go_end0
  have hs1 : w.heap.size ≤ (w1.setCell ⟨c, 0, none⟩ (.slice (some ⟨g, 0, none⟩) (n - 1) cap)).heap.size := Nat.le_trans HG1.out.size HGS.out.size
  have hfb : ∀ b', b' < w.heap.size → b' ≠ c → b' ≠ g → (∀ i, i < n → i ≠ m → b' ≠ p i) → w2.heap[b']? = w.heap[b']? := fun b' h1 h2 h3 h4 => by
    rw [hblk b' (Nat.lt_of_lt_of_le h1 hs1) (fun i hi => by obtain ⟨j, j1, j2, e⟩ := dl_at (m := m) p hi; rw [e]; exact h4 j j1 j2)]
    rw [HGS.out.block b' (Nat.lt_of_lt_of_le h1 HG1.out.size) (by simpa using h2)]
    exact HG1.out.block b' h1 (by simpa using h3)
  refine ⟨rfl, U', hfil, ⟨?_, ?_, hsl, dlx_inc HINC.out, fun i hi => ?_, fun i hi => ?_, hcg⟩, ?_, ⟨Nat.le_trans hs1 hsz, hos.trans (HGS.out.os.trans HG1.out.os), htp.trans (HGS.out.tape.trans HG1.out.tape), hou.trans (HGS.out.output.trans HG1.out.output), fun b' h1 h2 h3 h4 => hfb b' h1 h2 h3 (fun i hi _ => h4 i hi)⟩⟩
  · unfold Ck
    rw [hblk c (Nat.lt_of_lt_of_le hclt hs1) (fun i hi => by obtain ⟨j, j1, j2, e⟩ := dl_at (m := m) p hi; rw [e]; exact fun h => HPC.out j j1 h.symm)]; exact HCK1.out
  · obtain ⟨cur, q1, q2⟩ := HR1.out.grown HGS.out (by simpa using fun h => hcg h.symm)
    exact ⟨cur, by rw [hblk g (Nat.lt_of_lt_of_le hglt hs1) (fun i hi => by obtain ⟨j, j1, j2, e⟩ := dl_at (m := m) p hi; rw [e]; exact fun h => HPG.out j j1 h.symm)]; exact q1, q2⟩
  · obtain ⟨j, j1, j2, e⟩ := dl_at (m := m) p hi; rw [e]; exact HPC.out j j1
  · obtain ⟨j, j1, j2, e⟩ := dl_at (m := m) p hi; rw [e]; exact HPG.out j j1
  · have hsm := HSLS.out m hm
    rw [HPB.out] at hsm
    exact sl_block hsm (hfb b hsm.lt hbc hbg (fun i hi hne h => HOTH.out i hi hne h.symm))

set_option maxHeartbeats 400000 in
theorem zzRemove (c b : Nat) (w : World) (Q : World → Prop) (h : Calls Try.prog 21 #[pv c, pv b] w fun e w' => e = .returned (.tuple #[]) ∧ Q w') : Calls Try.prog 11 #[pv c, pv b] w fun e w' => e = .returned (.tuple #[]) ∧ Q w' := by
  have H : Hid (Calls Try.prog 21 #[pv c, pv b] w fun e w' => e = .returned (.tuple #[]) ∧ Q w') := h
  clear h
  go_enter Try.func11, Try.ntmps11
  go_wp2_with (go_at_call 21; refine H.out.mono ?_; rintro e w1 ⟨rfl, hq⟩)
  go_end0
  exact ⟨rfl, hq⟩
end Go.Proofs.Qxb6616745a
