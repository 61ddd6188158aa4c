import Derived.Test.Qxb6616745aU4
namespace Go.Proofs.Qxb6616745a
open Go.RowKit

abbrev sv (i u : Bool) (l : Int) : Value := .agg #[.bool i, .bool u, .int .i64 l]

theorem In.at {w : World} {N n : Nat} {x : Addr} {I U : Nat → Bool} {L : Nat → Int} (h : In w N (some x) n I U L) (i : Nat) (hi : i < n) : w.cell? (x.add (i * 3)) = some (.bool (I i)) ∧ w.cell? ⟨(x.add (i * 3)).block, (x.add (i * 3)).off + 1, none⟩ = some (.bool (U i)) ∧
    w.cell? ⟨(x.add (i * 3)).block, (x.add (i * 3)).off + 2, none⟩ = some (.int .i64 (L i)) := by
  obtain ⟨y, e, _, h0, h1, h2, _⟩ := h i hi
  obtain rfl := Option.some.inj e
  exact ⟨h0, h1, h2⟩

/-- A struct of the law's own type in a block. -/
def Ob (w : World) (b : Nat) (i u : Bool) (l : Int) : Prop := w.heap[b]? = some (.cells #[.bool i, .bool u, .int .i64 l] 24 (0, 0))
section
variable {w w' : World} {b : Nat} {i u : Bool} {l : Int}
theorem Ob.lt (h : Ob w b i u l) : b < w.heap.size := (Array.getElem?_eq_some_iff.1 h).1
theorem Ob.fz (h : Ob w b i u l) (o : Nat) : w.frozen? ⟨b, o, none⟩ = false := by unfold Ob at h; simp [World.frozen?, h]
theorem Ob.c0 (h : Ob w b i u l) : w.cell? ⟨b, 0, none⟩ = some (.bool i) := by rw [cell_of_row w b 0 _ 24 (0, 0) h]; rfl
theorem Ob.c1 (h : Ob w b i u l) : w.cell? ⟨b, 1, none⟩ = some (.bool u) := by rw [cell_of_row w b 1 _ 24 (0, 0) h]; rfl
theorem Ob.c2 (h : Ob w b i u l) : w.cell? ⟨b, 2, none⟩ = some (.int .i64 l) := by rw [cell_of_row w b 2 _ 24 (0, 0) h]; rfl
theorem Ob.grown {r : Option Nat} (h : Ob w b i u l) (hg : w.grownBy w' r) (hr : some b ≠ r) : Ob w' b i u l := by
  have := hg.block b h.lt hr
  unfold Ob at *
  rw [this]; exact h
end
theorem Ob.new (w : World) (i u : Bool) (l : Int) : Ob (w.alloc (.cells #[.bool i, .bool u, .int .i64 l] 24)) w.heap.size i u l := Array.getElem?_push_size

set_option maxRecDepth 100000 in
set_option maxHeartbeats 1000000 in
theorem bytes5_any (a0 : Option Addr) (n cap0 : Nat) (k opt rounds : Int) (oi ou : Bool) (ol : Int) (w : World) (hn : n ≤ maxLen) (v : Bool) (hv : v = decide (n ≤ 1048576)) :
    Calls Try.prog 5 #[.slice a0 n cap0, .int .i64 k, sv oi ou ol, .int .i64 opt, .int .i64 rounds] w fun e w' => e = .returned (.bool v) ∧ w.grownBy w' none := by
  have hm : (n : Int) ≤ 9223372036854775807 := by unfold maxLen at hn; omega
  by_cases h1 : n ≤ 1048576
  · have hvt : v = true := by rw [hv]; simpa using h1
    clear hv
    obtain rfl := hvt
    have h1' : (n : Int) ≤ 1048576 := by omega
    have h1'' : decide ((1048576 : Int) < n) = false := by rw [decide_eq_false_iff_not]; omega
    go_enter Try.func5, Try.ntmps5
    go_wp2
    go_ret
    exact ⟨rfl, grown_alloc _ _ _⟩
  · have hvt : v = false := by rw [hv]; simpa using h1
    clear hv
    obtain rfl := hvt
    have h1' : (1048576 : Int) < n := by omega
    go_enter Try.func5, Try.ntmps5
    go_wp2
    go_ret
    exact ⟨rfl, grown_alloc _ _ _⟩

set_option maxRecDepth 100000 in
set_option maxHeartbeats 2000000 in
theorem law3_long (a0 : Option Addr) (n cap0 : Nat) (k opt rounds : Int) (oi ou : Bool) (ol : Int) (w : World) (hn : n ≤ maxLen) (h : 4096 < n) :
    Calls Try.prog 3 #[.slice a0 n cap0, .int .i64 k, sv oi ou ol, .int .i64 opt, .int .i64 rounds] w fun e w' => e = .returned (.bool true) ∧ w.grownBy w' none := by
  have hm : (n : Int) ≤ 9223372036854775807 := by unfold maxLen at hn; omega
  have h2' : (4096 : Int) < n := by omega
  by_cases h1 : n ≤ 1048576
  · go_enter Try.func3, Try.ntmps3
    go_wp2_with (go_at_call 5; refine (bytes5_any a0 n cap0 k opt rounds oi ou ol _ hn true (by simpa using h1)).mono ?_; rintro e w1 ⟨rfl, hg1⟩)
    go_ret
    exact ⟨rfl, grown_trans (grown_alloc _ _ _) hg1⟩
  · go_enter Try.func3, Try.ntmps3
    go_wp2_with (go_at_call 5; refine (bytes5_any a0 n cap0 k opt rounds oi ou ol _ hn false (by simpa using h1)).mono ?_; rintro e w1 ⟨rfl, hg1⟩)
    go_ret
    exact ⟨rfl, grown_trans (grown_alloc _ _ _) hg1⟩

set_option maxRecDepth 100000 in
set_option maxHeartbeats 2000000 in
theorem law3_bad (a0 : Option Addr) (n cap0 N : Nat) (k opt rounds : Int) (oi ou : Bool) (ol : Int) (I U : Nat → Bool) (L : Nat → Int) (w : World) (hi : In w N a0 n I U L) (hN : N ≤ w.heap.size) (hn : n ≤ 4096) (h : InvB I U n = false) :
    Calls Try.prog 3 #[.slice a0 n cap0, .int .i64 k, sv oi ou ol, .int .i64 opt, .int .i64 rounds] w fun e w' => e = .returned (.bool true) ∧ w.grownBy w' none := by
  have h2' : decide ((4096 : Int) < n) = false := by rw [decide_eq_false_iff_not]; omega
  have HI : Hid (In w N a0 n I U L) := hi
  have HG0 : Hid (w.grownBy (w.alloc (.cells #[.bool oi, .bool ou, .int .i64 ol] 24)) none) := grown_alloc _ _ _
  clear hi
  go_enter Try.func3, Try.ntmps3
  go_wp2_with (first
    | (go_at_call 5; refine (bytes5_any a0 n cap0 k opt rounds oi ou ol _ (by unfold maxLen; omega) true (by simp; omega)).mono ?_; rintro e w0 ⟨rfl, hg0⟩; have HG : Hid (w.grownBy w0 none) := grown_trans HG0.out hg0; clear hg0)
    | (go_at_call 6; refine (inv_any a0 n cap0 N I U L _ (HI.out.below (below_grown HG.out hN (by simp))) hn).mono ?_; rintro e w1 ⟨rfl, rfl⟩))
  go_ret
  exact ⟨rfl, HG.out⟩

/-- What stands behind the removal, as the law's two loops read it. -/
structure M3 (w : World) (N : Nat) (a0 : Option Addr) (n : Nat) (I U : Nat → Bool) (L : Nat → Int) (gp g c n' : Nat) (p pa : Nat → Nat) (V : Nat → Bool) (o : Option Addr) (r : Int) (tb : Nat) (ti tu : Bool) (tl : Int) : Prop where
  inp : In w N a0 n I U L
  size : N ≤ w.heap.size
  ptrs : Rw w gp n n p
  row : Rw w g n n' pa
  sls : Sls w n p I V L
  ck : Ck w c (.slice (some ⟨g, 0, none⟩) n' n) (.pointer o) r
  tgt : Sl w tb ti tu tl
theorem M3.grown {w w' : World} {N : Nat} {a0 : Option Addr} {n : Nat} {I U : Nat → Bool} {L : Nat → Int} {gp g c n' : Nat} {p pa : Nat → Nat} {V : Nat → Bool} {o : Option Addr} {r : Int} {tb : Nat} {ti tu : Bool} {tl : Int}
    (h : M3 w N a0 n I U L gp g c n' p pa V o r tb ti tu tl) (hg : w.grownBy w' none) : M3 w' N a0 n I U L gp g c n' p pa V o r tb ti tu tl :=
  ⟨h.inp.below (below_grown hg h.size (by simp)), Nat.le_trans h.size hg.size, h.ptrs.grown hg (by simp), h.row.grown hg (by simp), h.sls.grown hg (by simp), h.ck.grown hg (by simp), h.tgt.grown hg (by simp)⟩

/-- What stands ahead of the removal. -/
structure Z3 (w : World) (N : Nat) (a0 : Option Addr) (n : Nat) (I U : Nat → Bool) (L : Nat → Int) (gp g c : Nat) (p : Nat → Nat) (o : Option Addr) (r : Int) (ob : Nat) (oi ou : Bool) (ol : Int) : Prop where
  inp : In w N a0 n I U L
  size : N ≤ w.heap.size
  ptrs : Rw w gp n n p
  cs : Cs w c g n n (.pointer o) r p I U L
  pn : ∀ i, i < n → N ≤ p i
  gn : N ≤ g
  cn : N ≤ c
  gpo : gp ≠ c ∧ gp ≠ g ∧ ∀ i, i < n → gp ≠ p i
  obj : Ob w ob oi ou ol
  obo : ob ≠ c ∧ ob ≠ g ∧ ∀ i, i < n → ob ≠ p i

theorem rw_block {w w' : World} {g cap n : Nat} {f : Nat → Nat} (h : Rw w g cap n f) (he : w'.heap[g]? = w.heap[g]?) : Rw w' g cap n f := by
  obtain ⟨cur, h1, h2⟩ := h
  exact ⟨cur, by rw [he]; exact h1, h2⟩
theorem ob_block {w w' : World} {b : Nat} {i u : Bool} {l : Int} (h : Ob w b i u l) (he : w'.heap[b]? = w.heap[b]?) : Ob w' b i u l := by
  unfold Ob at *; rw [he]; exact h

section
variable {w : World} {N : Nat} {a0 : Option Addr} {n : Nat} {I U : Nat → Bool} {L : Nat → Int} {gp g c : Nat} {p : Nat → Nat} {o : Option Addr} {r : Int} {ob : Nat} {oi ou : Bool} {ol : Int}
theorem Z3.below (h : Z3 w N a0 n I U L gp g c p o r ob oi ou ol) {w' : World} (hf : Fr w w' c g n p) : Below N w w' := by
  refine ⟨hf.os, hf.tape, hf.output, hf.size, fun b hb => hf.block b (Nat.lt_of_lt_of_le hb h.size) ?_ ?_ fun i hi => ?_⟩
  · have := h.cn; omega
  · have := h.gn; omega
  · have := h.pn i hi; omega

theorem rem3_hit (h : Z3 w N a0 n I U L gp g c p o r ob oi ou ol) (k : Nat) (hk : k < n) (hn : n ≤ 4096) (hv : InvB I U n = true) :
    Calls Try.prog 11 #[pv c, pv (p k)] w fun e w' => e = .returned (.tuple #[]) ∧ ∃ V, Final I U L n k V ∧ M3 w' N a0 n I U L gp g c (n - 1) p (dl p k) V o r (p k) (I k) (U k) (L k) ∧ Ob w' ob oi ou ol ∧ Below N w w' := by
  refine zzRemove c (p k) w _ ?_
  refine (remove_hit c g n n k (.pointer o) r p I U L w h.cs hk hn (rem_inv hv hk)).mono ?_
  rintro e w' ⟨rfl, U', hfil, hcs, htg, hfr⟩
  have hb := h.below hfr
  refine ⟨rfl, back U' (U k) k, final_hit hk hfil, ⟨h.inp.below hb, Nat.le_trans h.size hb.size, ?_, hcs.row, fun i hi => ?_, hcs.ck, htg⟩, ?_, hb⟩
  · exact rw_block h.ptrs (hfr.block gp h.ptrs.lt h.gpo.1 h.gpo.2.1 h.gpo.2.2)
  · by_cases e : i = k
    · subst e
      have : back U' (U i) i i = U i := by simp [back]
      rw [this]; exact htg
    · by_cases e2 : i < k
      · have h1 := hcs.sls i (by omega)
        have e3 : dl p k i = p i := by unfold dl; rw [if_pos e2]
        have e4 : dlx I k i = I i := by unfold dlx; rw [if_pos e2]
        have e5 : dlx L k i = L i := by unfold dlx; rw [if_pos e2]
        have e6 : back U' (U k) k i = U' i := by simp [back, e, e2]
        rw [e3, e4, e5] at h1
        rw [e6]; exact h1
      · obtain ⟨s, rfl⟩ : ∃ s, i = s + 1 := ⟨i - 1, by omega⟩
        have h1 := hcs.sls s (by omega)
        have e3 : dl p k s = p (s + 1) := by unfold dl; rw [if_neg (by omega)]
        have e4 : dlx I k s = I (s + 1) := by unfold dlx; rw [if_neg (by omega)]
        have e5 : dlx L k s = L (s + 1) := by unfold dlx; rw [if_neg (by omega)]
        have e6 : back U' (U k) k (s + 1) = U' s := by simp [back, e, e2]
        rw [e3, e4, e5] at h1
        rw [e6]; exact h1
  · exact ob_block h.obj (hfr.block ob h.obj.lt h.obo.1 h.obo.2.1 h.obo.2.2)

theorem rem3_miss (h : Z3 w N a0 n I U L gp g c p o r ob oi ou ol) (b : Nat) (ti tu : Bool) (tl : Int) (hb : Sl w b ti tu tl) (hbp : ∀ i, i < n → p i ≠ b) (hbc : b ≠ c) (hbg : b ≠ g) (hn : n ≤ 4096) (hv : InvB I U n = true) :
    Calls Try.prog 11 #[pv c, pv b] w fun e w' => e = .returned (.tuple #[]) ∧ ∃ V, Final I U L n (-1) V ∧ M3 w' N a0 n I U L gp g c n p p V o r b ti tu tl ∧ Ob w' ob oi ou ol ∧ Below N w w' := by
  refine zzRemove c b w _ ?_
  have hinv : 4 ≤ cnt U n ∨ cnt (waits I U) n = 0 ∨ cnt U n = 3 := by
    rcases (inv_out hv).2 with h1 | h1
    · exact .inl h1
    · exact .inr (.inl h1)
  refine (remove_miss c g n n b (.pointer o) r p I U L w h.cs hb.is hbp hn hinv).mono ?_
  rintro e w' ⟨rfl, U', hfil, hcs, hfr⟩
  have hbl := h.below hfr
  obtain rfl := fill_same hv hfil
  refine ⟨rfl, U', final_miss hv, ⟨h.inp.below hbl, Nat.le_trans h.size hbl.size, ?_, hcs.row, hcs.sls, hcs.ck, ?_⟩, ?_, hbl⟩
  · exact rw_block h.ptrs (hfr.block gp h.ptrs.lt h.gpo.1 h.gpo.2.1 h.gpo.2.2)
  · exact sl_block hb (hfr.block b hb.lt hbc hbg (fun i hi h => hbp i hi h.symm))
  · exact ob_block h.obj (hfr.block ob h.obj.lt h.obo.1 h.obo.2.1 h.obo.2.2)
end
end Go.Proofs.Qxb6616745a
