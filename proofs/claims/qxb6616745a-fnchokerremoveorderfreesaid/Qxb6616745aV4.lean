import Derived.Test.Qxb6616745aV3
namespace Go.Proofs.Qxb6616745a
open Go.RowKit

theorem Sl.drewN {w : World} {b : Nat} {i u : Bool} {l : Int} (h : Sl w b i u l) (k : Nat) : Sl (w.drewN k) b i u l := h
theorem below_drewN {N : Nat} {w w' : World} (h : Below N w w') (k : Nat) : Below N w (w'.drewN k) := ⟨h.os, h.tape, h.output, h.size, h.block⟩
theorem Ob.drewN {w : World} {b : Nat} {i u : Bool} {l : Int} (h : Ob w b i u l) (k : Nat) : Ob (w.drewN k) b i u l := h
theorem M3.drewN {w : World} {N : Nat} {a0 : Option Addr} {n : Nat} {I U : Nat → Bool} {L : Nat → Int} {gp g c n' : Nat} {p pa : Nat → Nat} {V : Nat → Bool} {o : Option Addr} {r : Int} {tb : Nat} {ti tu : Bool} {tl : Int}
    (h : M3 w N a0 n I U L gp g c n' p pa V o r tb ti tu tl) (k : Nat) : M3 (w.drewN k) N a0 n I U L gp g c n' p pa V o r tb ti tu tl := h.grown (grown_drewN (grown_refl _ _) _)
theorem neq_same (x : Nat) (w : World) : (binOp .neq 29 (pv x) (pv x)).run Try.prog w = .ok (.bool false) w := by
  obtain ⟨j, hj, _⟩ := info54
  have h : ∀ d : Nat, (Op.equalIn (d + 1) 29 (pv x) (pv x)).run Try.prog w = .ok true w := fun d => by
    simp [Op.equalIn, run_underlying Try.underlying29, sizeOf, typeInfo, hj, run_sameAddr_same]
  simp only [binOp]
  simp [Op.equal, Op.maxDepth, h 9999]
theorem neq_nil (w : World) : (binOp .neq 29 (.pointer none) (.pointer none)).run Try.prog w = .ok (.bool false) w := by
  have h : ∀ d : Nat, (Op.equalIn (d + 1) 29 (.pointer none) (.pointer none)).run Try.prog w = .ok true w := fun d => by
    simp [Op.equalIn, run_underlying Try.underlying29]
  simp only [binOp]
  simp [Op.equal, Op.maxDepth, h 9999]

theorem z3_mk {w w0 w1 w2 w3 w4 : World} {N : Nat} {a0 : Option Addr} {n : Nat} {I U : Nat → Bool} {L : Nat → Int} {gp gc c : Nat} {p : Nat → Nat} {o : Option Addr} {r : Int} {oi ou : Bool} {ol : Int}
    (hN : N ≤ w.heap.size) (hg : w.grownBy w0 none) (hi : In w N a0 n I U L) (hgp : w0.heap.size ≤ gp) (hg1 : w0.grownBy w1 none) (hrp : Rw w1 gp n n p) (hsl : Sls w1 n p I U L) (hinc : ∀ i j, i < j → j < n → p i < p j) (hpg : ∀ i, i < n → gp < p i)
    (hg2 : w1.grownBy w2 none) (hgc : w2.heap.size < gc) (hrc : Rw w3 gc n n p) (hob : Ob w3 w2.heap.size oi ou ol) (hg3 : w2.grownBy w3 none) (hc : w3.heap.size ≤ c) (hck : Ck w4 c (.slice (some ⟨gc, 0, none⟩) n n) (.pointer o) r) (hg4 : w3.grownBy w4 none) :
    Z3 w4 N a0 n I U L gp gc c p o r w2.heap.size oi ou ol := by
  have g04 := grown_trans (grown_trans hg1 hg2) (grown_trans hg3 hg4)
  have g14 := grown_trans hg2 (grown_trans hg3 hg4)
  have s1 := hg.size
  have s2 := hg1.size
  have s3 := hg2.size
  have s4 := hg3.size
  have s5 := hg4.size
  have hgl := hrc.lt
  have hpl : ∀ i, i < n → p i < w1.heap.size := fun i hi => (hsl i hi).lt
  have hgpl := hrp.lt
  refine ⟨hi.below (below_grown (grown_trans hg g04) hN (by simp)), by omega, hrp.grown g14 (by simp), ⟨hck, hrc.grown hg4 (by simp), hsl.grown g14 (by simp), hinc, fun i hi => ?_, fun i hi => ?_, by omega⟩, fun i hi => ?_, by omega, by omega, ⟨by omega, by omega, fun i hi => ?_⟩, hob.grown hg4 (by simp), ⟨by omega, by omega, fun i hi => ?_⟩⟩
  · have := hpl i hi; omega
  · have := hpl i hi; omega
  · have := hpg i hi; omega
  · have := hpg i hi; omega
  · have := hpl i hi; omega

theorem In.at' {w : World} {N n : Nat} {a0 : Option Addr} {I U : Nat → Bool} {L : Nat → Int} (h : In w N a0 n I U L) (i : Nat) (hi : i < n) : ∃ x : Addr, a0 = some x ∧ w.cell? (x.add (i * 3)) = some (.bool (I i)) ∧ w.cell? ⟨(x.add (i * 3)).block, (x.add (i * 3)).off + 1, none⟩ = some (.bool (U i)) ∧
    w.cell? ⟨(x.add (i * 3)).block, (x.add (i * 3)).off + 2, none⟩ = some (.int .i64 (L i)) := by
  obtain ⟨y, e, _, h0, h1, h2, _⟩ := h i hi
  exact ⟨y, e, h0, h1, h2⟩
theorem outer_mk {w1 w2 w3 w4 : World} {n b gc c : Nat} {p : Nat → Nat} {I U : Nat → Bool} {L : Nat → Int} {oi ou : Bool} {ol : Int} (hsl : Sls w1 n p I U L) (hb : w1.heap.size ≤ b) (hsb : Sl w2 b oi ou ol) (hgc : w2.heap.size < gc) (hg3 : w2.grownBy w3 none) (hc : w3.heap.size ≤ c) (hg4 : w3.grownBy w4 none) :
    Sl w4 b oi ou ol ∧ (∀ i, i < n → p i ≠ b) ∧ b ≠ c ∧ b ≠ gc := by
  have h1 := hsb.lt
  have h2 := hg3.size
  refine ⟨hsb.grown (grown_trans hg3 hg4) (by simp), fun i hi => ?_, by omega, by omega⟩
  have := (hsl i hi).lt
  omega

end Go.Proofs.Qxb6616745a
