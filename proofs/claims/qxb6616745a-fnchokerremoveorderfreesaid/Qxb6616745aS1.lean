import Derived.Test.Qxb6616745aT1
namespace Go.Proofs.Qxb6616745a
open Go.RowKit

/-- A pointer to the head of block b. -/
abbrev pv (b : Nat) : Value := .pointer (some ⟨b, 0, none⟩)
/-- One place of a row turned. -/
def upd (f : Nat → Nat) (i b : Nat) : Nat → Nat := fun j => if j = i then b else f j
/-- A row of pointers: its first n cells. -/
def Rw (w : World) (g cap n : Nat) (f : Nat → Nat) : Prop :=
  ∃ cur : Array Value, w.heap[g]? = some (.cells cur 29 (0, 0)) ∧ cur.size = cap ∧ n ≤ cap ∧ ∀ i, i < n → cur[i]? = some (pv (f i))
section
variable {w w' : World} {g cap n : Nat} {f : Nat → Nat}
theorem Rw.lt (h : Rw w g cap n f) : g < w.heap.size := by obtain ⟨cur, h, _⟩ := h; exact (Array.getElem?_eq_some_iff.1 h).1
theorem Rw.cell (h : Rw w g cap n f) {i : Nat} (hi : i < n) : w.cell? ⟨g, i, none⟩ = some (pv (f i)) := by
  obtain ⟨cur, h, _, _, hc⟩ := h
  rw [cell_of_row w g i _ 29 (0, 0) h]; exact hc i hi
theorem Rw.fz (h : Rw w g cap n f) (o : Nat) : w.frozen? ⟨g, o, none⟩ = false := by obtain ⟨cur, h, _⟩ := h; simp [World.frozen?, h]
theorem Rw.set (h : Rw w g cap n f) (i b : Nat) (hi : i < n) : Rw (w.setCell ⟨g, i, none⟩ (pv b)) g cap n (upd f i b) := by
  obtain ⟨cur, h, hs, hn, hc⟩ := h
  refine ⟨cur.setIfInBounds i (pv b), ?_, by simpa using hs, hn, fun j hj => ?_⟩
  · simp [World.setCell, Array.getElem?_modify, h]
  · rw [Array.getElem?_setIfInBounds]
    unfold upd
    by_cases e : i = j
    · subst e; simp; omega
    · rw [if_neg e, if_neg (fun h => e h.symm)]; exact hc j hj
theorem Rw.grown {r : Option Nat} (h : Rw w g cap n f) (hg : w.grownBy w' r) (hr : some g ≠ r) : Rw w' g cap n f := by
  have hb := hg.block g h.lt hr
  obtain ⟨cur, h, rest⟩ := h
  exact ⟨cur, by rw [hb]; exact h, rest⟩
theorem Rw.congr {f' : Nat → Nat} (h : Rw w g cap n f) (he : ∀ i, i < n → f i = f' i) : Rw w g cap n f' := by
  obtain ⟨cur, h, hs, hn, hc⟩ := h
  exact ⟨cur, h, hs, hn, fun i hi => by rw [← he i hi]; exact hc i hi⟩
theorem Rw.drewN (h : Rw w g cap n f) (k : Nat) : Rw (w.drewN k) g cap n f := h
theorem Rw.drew (h : Rw w g cap n f) : Rw w.drew g cap n f := h
end

/-- k places from a on change places with those from b on. -/
def swapR (f : Nat → Nat) (a b k : Nat) : Nat → Nat := fun i => if a ≤ i ∧ i < a + k then f (b + (i - a)) else if b ≤ i ∧ i < b + k then f (a + (i - b)) else f i

theorem swapR_step (f : Nat → Nat) (a b k : Nat) (h : a + (k + 1) ≤ b) : upd (upd (swapR f a b k) (a + k) (f (b + k))) (b + k) (f (a + k)) = swapR f a b (k + 1) := by
  funext i
  unfold upd swapR
  repeat' split
  all_goals first | rfl | (exfalso; omega) | (congr 1; omega)

set_option maxRecDepth 100000 in
set_option maxHeartbeats 1000000 in
theorem swapRange_any (g cap n a b k : Nat) (cv : Value) (f : Nat → Nat) (w : World) (hr : Rw w g cap n f) (hab : a + k ≤ b) (hbn : b + k ≤ n) (hn : n ≤ 4096) :
    Calls Try.prog 38 #[.slice (some ⟨g, 0, none⟩) n cap, .int .i64 a, .int .i64 b, .int .i64 k, cv] w fun e w' => e = .returned (.tuple #[]) ∧ Rw w' g cap n (swapR f a b k) ∧ w.grownBy w' (some g) := by
  go_enter Try.func38, Try.ntmps38
  go_wp2
  go_loopw [10] (fun i wr => ∃ j : Nat, j ≤ k ∧ i = .int .i64 j ∧ Rw wr g cap n (swapR f a b j) ∧ w.grownBy wr (some g)) (fun i _ => k - (intOf i).toNat)
  case atStart => exact ⟨0, Nat.zero_le _, rfl, hr.congr (fun i hi => by unfold swapR; rw [if_neg (by omega), if_neg (by omega)]), grown_refl _ _⟩
  case round =>
    obtain ⟨j, hj, rfl, hrr, hg⟩ := hrel
    by_cases hlt : j < k
    · have c1 := hrr.cell (i := a + j) (by omega)
      have c2 := hrr.cell (i := b + j) (by omega)
      have e1 : swapR f a b j (a + j) = f (a + j) := by unfold swapR; rw [if_neg (by omega), if_neg (by omega)]
      have e2 : swapR f a b j (b + j) = f (b + j) := by unfold swapR; rw [if_neg (by omega), if_neg (by omega)]
      rw [e1] at c1
      rw [e2] at c2
      clear e1 e2
      have f1 := hrr.fz (a + j)
      have f2 := hrr.fz (b + j)
      have q1 : (a : Int) + j < (n : Int) := by omega
      have q2 : (b : Int) + j < (n : Int) := by omega
      have z1 : (0 : Int) ≤ (a : Int) + j := by omega
      have z2 : (0 : Int) ≤ (b : Int) + j := by omega
      have HG : Hid (w.grownBy wr (some g)) := hg
      have HRR : Hid (Rw wr g cap n (swapR f a b j)) := hrr
      clear hg hrr
      have hne : ¬ b + j = a + j := by omega
      have hne' : ¬ a + j = b + j := by omega
      go_wp2
      go_region
      go_wp2
      go_roundw
      case rel =>
        refine ⟨j + 1, by omega, by go_num, ?_, ?_⟩
        · rw [← swapR_step f a b j (by omega)]
          exact ((HRR.out.set (a + j) _ (by omega)).set (b + j) _ (by omega)).drew
        · exact grown_drew (grown_trans (grown_trans HG.out (grown_set _ _ _ _)) (grown_set _ _ _ _))
      case measure => simp [intOf]; omega
    · go_wp2
      go_end0
      have hjk : j = k := by omega
      subst hjk
      exact ⟨rfl, hrr, hg⟩
end Go.Proofs.Qxb6616745a
