import Derived.Test.Qxb6616745aT3
import Derived.Laws.CopyOwn
namespace Go.Proofs.Qxb6616745a
open Go.RowKit

/-- How many i < n are so. -/
def cnt (p : Nat → Bool) : Nat → Nat
  | 0 => 0
  | n + 1 => cnt p n + (if p n then 1 else 0)
theorem cnt_le (p : Nat → Bool) (n : Nat) : cnt p n ≤ n := by
  induction n with
  | zero => exact Nat.le_refl _
  | succ n ih => unfold cnt; split <;> omega

theorem copy_run {w : World} {g0 g n : Nat} {p q : Nat → Nat} (h0 : Rw w g0 n n p) (h : Rp w g n 0 q) :
    ∃ w2, (Builtin.copy_ #[27, 27] 3 #[.slice (some ⟨g, 0, none⟩) n n, .slice (some ⟨g0, 0, none⟩) n n]).run Try.prog w = .ok (.int .i64 n) w2 ∧ Hid (Rw w2 g n n p ∧ w.grownBy w2 (some g)) := by
  obtain ⟨cur, h1, h2, h3, _, _⟩ := h
  have hl : ((List.range n).map (fun i => pv (p i))).length = n := by simp
  have hr := run_copy_row (P := Try.prog) w 27 27 3 29 g 0 n n ⟨g0, 0, none⟩ n n cur 29 ((List.range n).map (fun i => pv (p i))) Try.underlying27 Try.size29 h1 (by simp) (fun j v hv => by
    have hj : j < n := by
      have := (List.getElem?_eq_some_iff.1 hv).1
      simpa using this
    have hadd : (⟨g0, 0, none⟩ : Addr).add j = ⟨g0, j, none⟩ := by unfold Addr.add; split <;> simp_all
    rw [hadd, h0.cell hj]
    simpa [hj] using hv) (by simp; omega) (by simp [Value.oneCell'])
  have e2 : goInt (((List.range n).map (fun i => pv (p i))).length : Int) = .int .i64 n := by rw [hl]; rfl
  have e : (cur.toList.take 0 ++ (List.range n).map (fun i => pv (p i)) ++ cur.toList.drop (0 + ((List.range n).map (fun i => pv (p i))).length)) = (List.range n).map (fun i => pv (p i)) := by
    rw [List.drop_eq_nil_of_le (by simp; omega)]; simp
  rw [e2, e] at hr
  refine ⟨_, hr, ?_, ?_⟩
  · refine ⟨_, setRow_heap w g cur _ 29 _ h1, by simp, Nat.le_refl _, fun i hi => ?_⟩
    rw [List.getElem?_toArray, List.getElem?_map, List.getElem?_range hi]; rfl
  · exact ⟨rfl, rfl, rfl, by simp, fun i hi hr => setRow_other w g i _ (fun e => hr (by rw [e]))⟩

set_option maxRecDepth 100000 in
set_option maxHeartbeats 1000000 in
theorem clone_any (g0 n : Nat) (p : Nat → Nat) (w : World) (h0 : Rw w g0 n n p) (hn : n ≤ 4096) :
    Calls Try.prog 10 #[.slice (some ⟨g0, 0, none⟩) n n] w fun e w' => ∃ g, e = .returned (.slice (some ⟨g, 0, none⟩) n n) ∧ w.heap.size ≤ g ∧ Rw w' g n n p ∧ w.grownBy w' none := by
  obtain ⟨w1, hmk, HM⟩ := make_run n hn (fun _ => 0) w
  obtain ⟨w2, hcp, HC⟩ := copy_run (h0.grown HM.out.2.2 (by simp)) HM.out.1
  clear h0
  obtain ⟨g, hgs⟩ : ∃ g, w.heap.size = g := ⟨_, rfl⟩
  rw [hgs] at hcp
  go_enter Try.func10, Try.ntmps10
  go_wp2
  go_ret
  have hh := HC.out
  rw [hgs] at hh
  exact ⟨g, rfl, by omega, hh.1, grown_new HM.out.2.2 hh.2 (by omega)⟩

/-- The choker's block. -/
def Ck (w : World) (c : Nat) (v o : Value) (r : Int) : Prop := w.heap[c]? = some (.cells #[v, o, .int .i64 r] 56 (0, 0))
section
variable {w w' : World} {c : Nat} {v o : Value} {r : Int}
theorem Ck.lt (h : Ck w c v o r) : c < w.heap.size := (Array.getElem?_eq_some_iff.1 h).1
theorem Ck.fz (h : Ck w c v o r) (k : Nat) : w.frozen? ⟨c, k, none⟩ = false := by unfold Ck at h; simp [World.frozen?, h]
theorem Ck.c0 (h : Ck w c v o r) : w.cell? ⟨c, 0, none⟩ = some v := by rw [cell_of_row w c 0 _ 56 (0, 0) h]; rfl
theorem Ck.c1 (h : Ck w c v o r) : w.cell? ⟨c, 1, none⟩ = some o := by rw [cell_of_row w c 1 _ 56 (0, 0) h]; rfl
theorem Ck.c2 (h : Ck w c v o r) : w.cell? ⟨c, 2, none⟩ = some (.int .i64 r) := by rw [cell_of_row w c 2 _ 56 (0, 0) h]; rfl
theorem Ck.set (h : Ck w c v o r) (v' : Value) : Ck (w.setCell ⟨c, 0, none⟩ v') c v' o r := by
  unfold Ck at *
  simp [World.setCell, Array.getElem?_modify, h]
theorem Ck.grown {q : Option Nat} (h : Ck w c v o r) (hg : w.grownBy w' q) (hr : some c ≠ q) : Ck w' c v o r := by
  have := hg.block c h.lt hr
  unfold Ck at *
  rw [this]; exact h
end

set_option maxHeartbeats 400000 in
theorem newChoker_any (g n cap : Nat) (o : Option Addr) (r : Int) (w : World) :
    Calls Try.prog 9 #[.slice (some ⟨g, 0, none⟩) n cap, .pointer o, .int .i64 r] w fun e w' => ∃ c, e = .returned (.pointer (some ⟨c, 0, none⟩)) ∧ w.heap.size ≤ c ∧ Ck w' c (.slice (some ⟨g, 0, none⟩) n cap) (.pointer o) r ∧ w.grownBy w' none := by
  go_enter Try.func9, Try.ntmps9
  go_wp2
  go_ret
  exact ⟨w.heap.size, rfl, Nat.le_refl _, Array.getElem?_push_size, grown_alloc _ _ _⟩

set_option maxHeartbeats 400000 in
theorem slots_any (c : Nat) (v o : Value) (r : Int) (w : World) (h : Ck w c v o r) (h1 : ∃ g n cap, v = .slice (some ⟨g, 0, none⟩) n cap) :
    Calls Try.prog 12 #[.pointer (some ⟨c, 0, none⟩)] w fun e w' => e = .returned v ∧ w = w' := by
  obtain ⟨g, n, cap, rfl⟩ := h1
  have h0 := h.c0
  go_enter Try.func12, Try.ntmps12
  go_wp2
  go_ret
  exact ⟨rfl, rfl⟩
set_option maxHeartbeats 400000 in
theorem opt_any (c : Nat) (v : Value) (o : Option Addr) (r : Int) (w : World) (h : Ck w c v (.pointer o) r) :
    Calls Try.prog 16 #[.pointer (some ⟨c, 0, none⟩)] w fun e w' => e = .returned (.pointer o) ∧ w = w' := by
  have h0 := h.c1
  go_enter Try.func16, Try.ntmps16
  go_wp2
  go_ret
  exact ⟨rfl, rfl⟩
set_option maxHeartbeats 400000 in
theorem rounds_any (c : Nat) (v o : Value) (r : Int) (w : World) (h : Ck w c v o r) :
    Calls Try.prog 17 #[.pointer (some ⟨c, 0, none⟩)] w fun e w' => e = .returned (.int .i64 r) ∧ w = w' := by
  have h0 := h.c2
  go_enter Try.func17, Try.ntmps17
  go_wp2
  go_ret
  exact ⟨rfl, rfl⟩
set_option maxHeartbeats 400000 in
theorem unchoked_any (b : Nat) (i u : Bool) (l : Int) (w : World) (h : Sl w b i u l) :
    Calls Try.prog 14 #[.pointer (some ⟨b, 0, none⟩)] w fun e w' => e = .returned (.bool u) ∧ w = w' := by
  have h0 := h.c3
  go_enter Try.func14, Try.ntmps14
  go_wp2
  go_ret
  exact ⟨rfl, rfl⟩
set_option maxHeartbeats 400000 in
theorem interested_any (b : Nat) (i u : Bool) (l : Int) (w : World) (h : Sl w b i u l) :
    Calls Try.prog 15 #[.pointer (some ⟨b, 0, none⟩)] w fun e w' => e = .returned (.bool i) ∧ w = w' := by
  have h0 := h.c2
  go_enter Try.func15, Try.ntmps15
  go_wp2
  go_ret
  exact ⟨rfl, rfl⟩
set_option maxHeartbeats 400000 in
theorem pick_in (g n cap k : Nat) (p : Nat → Nat) (b : Nat) (w : World) (h : Rw w g cap n p) (hk : k < n) :
    Calls Try.prog 19 #[.slice (some ⟨g, 0, none⟩) n cap, pv b, .int .i64 k] w fun e w' => e = .returned (pv (p k)) ∧ w = w' := by
  have h0 := h.cell hk
  have h1 : (k : Int) < n := by omega
  go_enter Try.func19, Try.ntmps19
  go_wp2
  go_ret
  exact ⟨rfl, rfl⟩
set_option maxHeartbeats 400000 in
theorem pick_out (g n cap : Nat) (b : Nat) (w : World) :
    Calls Try.prog 19 #[.slice (some ⟨g, 0, none⟩) n cap, pv b, .int .i64 (-1)] w fun e w' => e = .returned (pv b) ∧ w = w' := by
  go_enter Try.func19, Try.ntmps19
  go_wp2
  go_ret
  exact ⟨rfl, rfl⟩
end Go.Proofs.Qxb6616745a
