import Derived.Test.Qxb6616745aT2
import Derived.Test.Qxb6616745aS1
import Derived.Below
import Derived.Deep.OwnRows
namespace Go.Proofs.Qxb6616745a
open Go.RowKit

/-- The given slots: what their cells hold. N: all of it lies below the block N. -/
def In (w : World) (N : Nat) (a0 : Option Addr) (n : Nat) (I U : Nat → Bool) (L : Nat → Int) : Prop :=
  ∀ i, i < n → ∃ x : Addr, a0 = some x ∧ x.block < N ∧ w.cell? (x.add (i * 3)) = some (.bool (I i)) ∧ w.cell? ⟨(x.add (i * 3)).block, (x.add (i * 3)).off + 1, none⟩ = some (.bool (U i)) ∧
    w.cell? ⟨(x.add (i * 3)).block, (x.add (i * 3)).off + 2, none⟩ = some (.int .i64 (L i)) ∧ -9223372036854775808 ≤ L i ∧ L i ≤ 9223372036854775807
theorem add_block (x : Addr) (k : Nat) : (x.add k).block = x.block := by unfold Addr.add; split <;> rfl
theorem In.below {w w' : World} {N n : Nat} {a0 : Option Addr} {I U : Nat → Bool} {L : Nat → Int} (h : In w N a0 n I U L) (hb : Below N w w') : In w' N a0 n I U L := by
  intro i hi
  obtain ⟨x, rfl, hx, h1, h2, h3, h4⟩ := h i hi
  have e := add_block x (i * 3)
  refine ⟨x, rfl, hx, ?_, ?_, ?_, h4⟩
  · rw [hb.cell (by rw [e]; exact hx)]; exact h1
  · rw [hb.cell (by show (x.add (i * 3)).block < N; rw [e]; exact hx)]; exact h2
  · rw [hb.cell (by show (x.add (i * 3)).block < N; rw [e]; exact hx)]; exact h3
theorem below_grown {w w' : World} {r : Option Nat} {N : Nat} (hg : w.grownBy w' r) (hN : N ≤ w.heap.size) (hr : ∀ k, r = some k → N ≤ k) : Below N w w' := (Below.refl N w).grown hg hN hr

/-- A row of pointers that is being filled: its first n cells set, the others nil. -/
def Rp (w : World) (g cap n : Nat) (f : Nat → Nat) : Prop :=
  ∃ cur : Array Value, w.heap[g]? = some (.cells cur 29 (0, 0)) ∧ cur.size = cap ∧ n ≤ cap ∧ (∀ i, i < n → cur[i]? = some (pv (f i))) ∧ ∀ i, n ≤ i → i < cap → cur[i]? = some (.pointer none)
section
variable {w w' : World} {g cap n : Nat} {f : Nat → Nat}
theorem Rp.rw (h : Rp w g cap n f) : Rw w g cap n f := by
  obtain ⟨cur, h1, h2, h3, h4, _⟩ := h
  exact ⟨cur, h1, h2, h3, h4⟩
theorem Rp.next (h : Rp w g cap n f) (hn : n < cap) : w.cell? ⟨g, n, none⟩ = some (.pointer none) := by
  obtain ⟨cur, h1, h2, h3, _, h5⟩ := h
  rw [cell_of_row w g n _ 29 (0, 0) h1]; exact h5 n (Nat.le_refl _) hn
theorem Rp.push (h : Rp w g cap n f) (b : Nat) (hn : n < cap) : Rp (w.setCell ⟨g, n, none⟩ (pv b)) g cap (n + 1) (upd f n b) := by
  obtain ⟨cur, h, hs, hn', hc, hd⟩ := h
  refine ⟨cur.setIfInBounds n (pv b), ?_, by simpa using hs, hn, fun j hj => ?_, fun j h1 h2 => ?_⟩
  · simp [World.setCell, Array.getElem?_modify, h]
  · rw [Array.getElem?_setIfInBounds]
    unfold upd
    by_cases e : n = j
    · subst e; simp; omega
    · rw [if_neg e, if_neg (fun h => e h.symm)]; exact hc j (by omega)
  · rw [Array.getElem?_setIfInBounds, if_neg (by omega)]; exact hd j (by omega) h2
theorem Rp.grown {r : Option Nat} (h : Rp w g cap n f) (hg : w.grownBy w' r) (hr : some g ≠ r) : Rp w' g cap n f := by
  have hb := hg.block g h.rw.lt hr
  obtain ⟨cur, h, rest⟩ := h
  exact ⟨cur, by rw [hb]; exact h, rest⟩
theorem Rp.drew (h : Rp w g cap n f) : Rp w.drew g cap n f := h
theorem Rp.drewN (h : Rp w g cap n f) (k : Nat) : Rp (w.drewN k) g cap n f := h
theorem Rp.congr {f' : Nat → Nat} (h : Rp w g cap n f) (he : ∀ i, i < n → f i = f' i) : Rp w g cap n f' := by
  obtain ⟨cur, h, hs, hn, hc, hd⟩ := h
  exact ⟨cur, h, hs, hn, fun i hi => by rw [← he i hi]; exact hc i hi, hd⟩
end
theorem Try.info29 : (Try.prog.info? 29).map (fun i => (i.zero, i.size, i.bytes)) = some (some (.pointer none), 1, 8) := by kernel_rfl
theorem Try.size29 : (Try.prog.info? 29).map (·.size) = some 1 := by kernel_rfl
theorem make_run (n : Nat) (hn : n ≤ 4096) (f : Nat → Nat) (w : World) :
    ∃ w1, (Instr.makeSlice 27 (.int .i64 (n : Int)) (.int .i64 (n : Int))).run Try.prog w = .ok (.slice (some ⟨w.heap.size, 0, none⟩) n n) w1 ∧ Hid (Rp w1 w.heap.size n 0 f ∧ w.heap.size < w1.heap.size ∧ w.grownBy w1 none) := by
  refine ⟨_, run_make_row' (P := Try.prog) 27 29 (.pointer none) 8 Try.underlying27 Try.info29 rfl .i64 .i64 n (by omega) (by omega) w, ?_, ?_, grown_alloc _ _ _⟩
  · exact ⟨_, Array.getElem?_push_size, size_madeCells _ _, Nat.zero_le _, fun i hi => by omega, fun i _ h2 => by simp [madeCells, h2, Nat.mod_one]⟩
  · show w.heap.size < (w.heap.push _).size
    rw [Array.size_push]; omega

/-- What is new since the row g was made is new since before it was made. -/
theorem grown_new {w w1 w' : World} {g : Nat} (h1 : w.grownBy w1 none) (h : w1.grownBy w' (some g)) (hg : w.heap.size ≤ g) : w.grownBy w' none :=
  ⟨h.os.trans h1.os, h.tape.trans h1.tape, h.output.trans h1.output, Nat.le_trans h1.size h.size, fun i hi _ => (h.block i (Nat.lt_of_lt_of_le hi h1.size) (by simp; omega)).trans (h1.block i hi (by simp))⟩

/-- The slots that a row leads to. -/
def Sls (w : World) (n : Nat) (p : Nat → Nat) (I U : Nat → Bool) (L : Nat → Int) : Prop := ∀ i, i < n → Sl w (p i) (I i) (U i) (L i)
theorem Sls.grown {w w' : World} {n : Nat} {p : Nat → Nat} {I U : Nat → Bool} {L : Nat → Int} {r : Option Nat} (h : Sls w n p I U L) (hg : w.grownBy w' r) (hr : ∀ i, i < n → some (p i) ≠ r) : Sls w' n p I U L :=
  fun i hi => (h i hi).grown hg (hr i hi)

theorem held_set {w : World} {x : Addr} {i g o N : Nat} {v0 v1 v2 : Value} (hx : x.block < N) (h0 : w.cell? (x.add (i * 3)) = some v0) (h1 : w.cell? ⟨(x.add (i * 3)).block, (x.add (i * 3)).off + 1, none⟩ = some v1) (h2 : w.cell? ⟨(x.add (i * 3)).block, (x.add (i * 3)).off + 2, none⟩ = some v2) (hg : N ≤ g) (v : Value) :
    (w.setCell ⟨g, o, none⟩ v).cell? (x.add (i * 3)) = some v0 ∧ (w.setCell ⟨g, o, none⟩ v).cell? ⟨(x.add (i * 3)).block, (x.add (i * 3)).off + 1, none⟩ = some v1 ∧ (w.setCell ⟨g, o, none⟩ v).cell? ⟨(x.add (i * 3)).block, (x.add (i * 3)).off + 2, none⟩ = some v2 := by
  have hb := (Below.refl N w).setCell (p := ⟨g, o, none⟩) hg v
  have e := add_block x (i * 3)
  refine ⟨?_, ?_, ?_⟩
  · rw [hb.cell (by rw [e]; exact hx)]; exact h0
  · rw [hb.cell (by show (x.add (i * 3)).block < N; rw [e]; exact hx)]; exact h1
  · rw [hb.cell (by show (x.add (i * 3)).block < N; rw [e]; exact hx)]; exact h2

set_option maxRecDepth 100000 in
set_option maxHeartbeats 1000000 in
theorem build_any (a0 : Option Addr) (n cap0 N : Nat) (I U : Nat → Bool) (L : Nat → Int) (w : World) (hi : In w N a0 n I U L) (hN : N ≤ w.heap.size) (hn : n ≤ 4096) :
    Calls Try.prog 7 #[.slice a0 n cap0] w fun e w' => ∃ g p, e = .returned (.slice (some ⟨g, 0, none⟩) n n) ∧ w.heap.size ≤ g ∧ Rw w' g n n p ∧ Sls w' n p I U L ∧ (∀ i j, i < j → j < n → p i < p j) ∧ (∀ i, i < n → g < p i) ∧ w.grownBy w' none := by
  have HI : Hid (In w N a0 n I U L) := hi
  clear hi
  obtain ⟨w1, hmk, HM⟩ := make_run n hn (fun _ => 0) w
  obtain ⟨g, hgs⟩ : ∃ g, w.heap.size = g := ⟨_, rfl⟩
  have HM' : Hid (Rp w1 g n 0 (fun _ => 0) ∧ g < w1.heap.size ∧ w.grownBy w1 none) := by rw [← hgs]; exact HM
  go_enter Try.func7, Try.ntmps7
  go_wp2
  go_loopw [4] (fun vi wr => ∃ (i : Nat) (p : Nat → Nat), i ≤ n ∧ vi = .int .i64 i ∧ Rp wr g n i p ∧ Sls wr i p I U L ∧ (∀ j k, j < k → k < i → p j < p k) ∧ (∀ j, j < i → g < p j) ∧ w1.grownBy wr (some g)) (fun vi _ => n - (intOf vi).toNat)
  case atStart => exact ⟨0, fun _ => 0, by omega, rfl, HM'.out.1, fun i h => by omega, fun _ _ _ h => by omega, fun _ h => by omega, grown_refl _ _⟩
  case round =>
    obtain ⟨i, p, hin, rfl, hrp, hsl, hinc, hgp, hg⟩ := hrel
    have HS : Hid (Sls wr i p I U L) := hsl
    have HC : Hid (∀ j k, j < k → k < i → p j < p k) := hinc
    have HP : Hid (∀ j, j < i → g < p j) := hgp
    have HG : Hid (w1.grownBy wr (some g)) := hg
    have HR : Hid (Rp wr g n i p) := hrp
    have HN : Hid (w.grownBy wr none) := grown_new HM'.out.2.2 hg (by omega)
    clear hsl hinc hgp hg hrp
    by_cases hlt : i < n
    · have hlt' : (i : Int) < n := by omega
      have HIR : Hid (In wr N a0 n I U L) := HI.out.below (below_grown HN.out hN (by simp))
      obtain ⟨x, rfl, hx, c0, c1, c2, l0, l1⟩ := HIR.out i hlt
      have HX : Hid (x.block < N) := hx
      clear hx
      go_wp2
      have hnx := HR.out.next hlt
      go_region_held (fun w' => w'.cell? (x.add (i * 3)) = some (.bool (I i)) ∧ w'.cell? ⟨(x.add (i * 3)).block, (x.add (i * 3)).off + 1, none⟩ = some (.bool (U i)) ∧ w'.cell? ⟨(x.add (i * 3)).block, (x.add (i * 3)).off + 2, none⟩ = some (.int .i64 (L i))) ((first | go_keep | exact ⟨d0, d1, d2⟩ | exact DD.out _)) ((go_at_call 8; refine (newSlot_any (I i) (U i) (L i) _ l0 l1).mono ?_; rintro e w2 ⟨b, rfl, hb, hsb, hg2⟩; have HB : Hid (wr.heap.size ≤ b) := hb; have HSB : Hid (Sl w2 b (I i) (U i) (L i)) := hsb; have HG2 : Hid (wr.grownBy w2 none) := ⟨hg2.os, hg2.tape, hg2.output, hg2.size, hg2.block⟩; have hr2 := HR.out.grown HG2.out (by simp); have hn2 := hr2.next hlt; have hf2 := hr2.rw.fz i; have HR2 : Hid (Rp w2 g n i p) := hr2; obtain ⟨_, ex, _, d0, d1, d2, _, _⟩ := (HIR.out.below (below_grown HG2.out (by have := HN.out.size; omega) (by simp))) i hlt; obtain rfl := Option.some.inj ex; have DD : Hid (∀ v, (w2.setCell ⟨g, i, none⟩ v).cell? (x.add (i * 3)) = some (.bool (I i)) ∧ (w2.setCell ⟨g, i, none⟩ v).cell? ⟨(x.add (i * 3)).block, (x.add (i * 3)).off + 1, none⟩ = some (.bool (U i)) ∧ (w2.setCell ⟨g, i, none⟩ v).cell? ⟨(x.add (i * 3)).block, (x.add (i * 3)).off + 2, none⟩ = some (.int .i64 (L i))) := held_set HX.out d0 d1 d2 (by omega); clear hb hsb hg2 hr2))
      go_wp2
      go_roundw
      case rel =>
        have hgr : g < wr.heap.size := Nat.lt_of_lt_of_le HM'.out.2.1 HG.out.size
        have hgb : g < b := Nat.lt_of_lt_of_le hgr HB.out
        have hpl : ∀ j, j < i → p j < b := fun j hj => Nat.lt_of_lt_of_le (HS.out j hj).lt HB.out
        have hup : ∀ j, j < i → upd p i b j = p j := fun j hj => by unfold upd; rw [if_neg (by omega)]
        have hui : upd p i b i = b := by unfold upd; rw [if_pos rfl]
        refine ⟨i + 1, upd p i b, by omega, by go_num, HR2.out.push b hlt, fun j hj => ?_, fun j k h1 h2 => ?_, fun j hj => ?_, ?_⟩
        · by_cases e : j = i
          · subst e; rw [hui]; exact HSB.out.grown (grown_set _ _ _ _) (by simp; omega)
          · rw [hup j (by omega)]
            exact ((HS.out j (by omega)).grown HG2.out (by simp)).grown (grown_set _ _ _ _) (by have := HP.out j (by omega); simp; omega)
        · by_cases e : k = i
          · subst e; rw [hui, hup j h1]; exact hpl j h1
          · rw [hup j (by omega), hup k (by omega)]; exact HC.out j k h1 (by omega)
        · by_cases e : j = i
          · subst e; rw [hui]; exact hgb
          · rw [hup j (by omega)]; exact HP.out j (by omega)
        · exact grown_trans (grown_trans HG.out (grown_none HG2.out _)) (grown_set _ _ _ _)
      case measure => simp [intOf]; omega
    · have hlt' : decide ((i : Int) < n) = false := by simp; omega
      go_wp2
      go_ret
      obtain rfl : i = n := by omega
      exact ⟨g, p, rfl, by omega, HR.out.rw, HS.out, HC.out, HP.out, HN.out⟩
end Go.Proofs.Qxb6616745a
