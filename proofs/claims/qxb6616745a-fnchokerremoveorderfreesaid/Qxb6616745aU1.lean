import Derived.Test.Qxb6616745aT5
import Derived.LaidEqlPtr
import Derived.Lib.SliceRun
namespace Go.Proofs.Qxb6616745a
open Go.RowKit

/-- A slot, whatever it holds. -/
def IsS (w : World) (b : Nat) : Prop := ∃ i u l, Sl w b i u l
theorem IsS.grown {w w' : World} {b : Nat} {r : Option Nat} (h : IsS w b) (hg : w.grownBy w' r) (hr : some b ≠ r) : IsS w' b := by
  obtain ⟨i, u, l, h⟩ := h
  exact ⟨i, u, l, h.grown hg hr⟩
theorem Sl.is {w : World} {b : Nat} {i u : Bool} {l : Int} (h : Sl w b i u l) : IsS w b := ⟨i, u, l, h⟩

theorem info54 : ∃ j, Try.prog.info? 54 = some j ∧ j.size ≠ 0 := by
  have h : (Try.prog.info? 54).map (·.size) = some 10 := by kernel_rfl
  obtain ⟨j, h1, h2⟩ := Option.map_eq_some_iff.1 h
  exact ⟨j, h1, by omega⟩
theorem eql_slots {w : World} {x y : Nat} (hx : IsS w x) (hy : IsS w y) : (binOp .eql 29 (pv x) (pv y)).run Try.prog w = .ok (.bool (decide (x = y))) w := by
  obtain ⟨j, hj, hs⟩ := info54
  by_cases e : x = y
  · subst e
    rw [run_eql_ptr_same w ⟨x, 0, none⟩ Try.underlying29 hj]; simp
  · obtain ⟨_, _, _, h1⟩ := hx
    obtain ⟨_, _, _, h2⟩ := hy
    rw [run_eql_ptr_other w (a := ⟨x, 0, none⟩) (b := ⟨y, 0, none⟩) Try.underlying29 hj hs (fun h => e (congrArg Addr.block h)) h1 h2, decide_eq_false e]

abbrev eqF (k : Nat) : Value := .func (.func 27) #[] #[.pointer (some ⟨k, 0, none⟩)]
set_option maxHeartbeats 400000 in
theorem eqF_any (x b k : Nat) (w : World) (hk : w.cell? ⟨k, 0, none⟩ = some (pv b)) (hx : IsS w x) (hb : IsS w b) :
    Calls Try.prog 27 #[pv x, .pointer (some ⟨k, 0, none⟩)] w fun e w' => e = .returned (.bool (decide (x = b))) ∧ w = w' := by
  have h := eql_slots hx hb
  go_enter Try.func27, Try.ntmps27
  go_wp2
  go_ret
  exact ⟨rfl, rfl⟩

set_option maxRecDepth 100000 in
set_option maxHeartbeats 1000000 in
/-- The first place of b, or none. -/
theorem index_any (g cap n b k m : Nat) (p : Nat → Nat) (w : World) (h : Rw w g cap n p) (hk : w.cell? ⟨k, 0, none⟩ = some (pv b)) (hs : ∀ i, i < n → IsS w (p i)) (hb : IsS w b) (hn : n ≤ 4096) (hm : m ≤ n) (h1 : ∀ i, i < m → p i ≠ b) (v : Int) (h2 : (m < n ∧ p m = b ∧ v = m) ∨ (m = n ∧ v = -1)) :
    Calls Try.prog 30 #[.slice (some ⟨g, 0, none⟩) n cap, eqF k] w fun e w' => e = .returned (.int .i64 v) ∧ w = w' := by
  have HS : Hid (∀ i, i < n → IsS w (p i)) := hs
  have HB : Hid (IsS w b) := hb
  have H1 : Hid (∀ i, i < m → p i ≠ b) := h1
  have H2 : Hid ((m < n ∧ p m = b ∧ v = m) ∨ (m = n ∧ v = -1)) := h2
  clear hs hb h1 h2
  go_enter Try.func30, Try.ntmps30
  go_wp2
  go_loopw [8] (fun vi wr => ∃ i : Nat, i ≤ m ∧ vi = .int .i64 i ∧ wr = w) (fun vi _ => n - (intOf vi).toNat)
  case atStart => exact ⟨0, Nat.zero_le _, rfl, rfl⟩
  case round =>
    obtain ⟨i, hi, rfl, rfl⟩ := hrel
    by_cases hlt : i < n
    · have hlt' : (i : Int) < n := by omega
      have c := h.cell hlt
      by_cases him : i < m
      · have hd : decide (p i = b) = false := by simpa using H1.out i him
        go_wp2_with (go_at_call 27; refine (eqF_any (p i) b k _ hk (HS.out i hlt) HB.out).mono ?_; rintro e w1 ⟨rfl, rfl⟩)
        go_roundw
        case rel => exact ⟨i + 1, by omega, by go_num, trivial⟩
        case measure => simp [intOf]; omega
      · obtain rfl : i = m := by omega
        have hpv : p i = b ∧ v = i := by
          rcases H2.out with ⟨_, h3, h4⟩ | ⟨h3, _⟩
          · exact ⟨h3, h4⟩
          · omega
        have HV : Hid (v = i) := hpv.2
        have hd : decide (p i = b) = true := by simpa using hpv.1
        clear hpv
        go_wp2_with (go_at_call 27; refine (eqF_any (p i) b k _ hk (HS.out i hlt) HB.out).mono ?_; rintro e w1 ⟨rfl, rfl⟩)
        go_ret
        exact ⟨by rw [HV.out]; rfl, rfl⟩
    · have hlt' : decide ((i : Int) < n) = false := by simp; omega
      go_wp2
      go_ret
      have hv : v = -1 := by
        rcases H2.out with ⟨_, _, _⟩ | ⟨_, h4⟩
        · omega
        · exact h4
      exact ⟨by rw [hv]; rfl, rfl⟩

theorem below_cell {w w' : World} {g k o : Nat} {v : Value} (hg : w.grownBy w' (some g)) (h : w.cell? ⟨k, o, none⟩ = some v) (hk : k ≠ g) : w'.cell? ⟨k, o, none⟩ = some v := by
  have hlt := World.block_lt_of_cell? w _ h
  rw [World.cell?_of_block (w := w) (hg.block k hlt (by simpa using hk))]
  exact h

/-- The row without its place m. -/
def dl (p : Nat → Nat) (m : Nat) : Nat → Nat := fun i => if i < m then p i else p (i + 1)
/-- .. while the places behind m move up: those before j have. -/
def dlTo (p : Nat → Nat) (m j : Nat) : Nat → Nat := fun i => if m ≤ i ∧ i < j then p (i + 1) else p i
theorem dlTo_step (p : Nat → Nat) (m j : Nat) (h : m ≤ j) : upd (dlTo p m j) j (p (j + 1)) = dlTo p m (j + 1) := by
  funext i
  unfold upd dlTo
  repeat' split
  all_goals first | rfl | (exfalso; omega) | (congr 1; omega)

theorem zero29 : ∀ w, (zeroValue 29).run Try.prog w = .ok (.pointer none) w := by
  intro w
  have h : (Try.prog.info? 29).map (fun i => (i.zero, i.size, i.bytes)) = some (some (.pointer none), 1, 8) := Try.info29
  obtain ⟨i, hi, hz⟩ := Option.map_eq_some_iff.1 h
  simp only [Prod.mk.injEq] at hz
  simp [zeroValue, typeInfo, hi, hz.1]
theorem Rw.less {w : World} {g cap n k : Nat} {f : Nat → Nat} (h : Rw w g cap n f) (hk : k ≤ n) : Rw w g cap k f := by
  obtain ⟨cur, h1, h2, h3, h4⟩ := h
  exact ⟨cur, h1, h2, by omega, fun i hi => h4 i (by omega)⟩
theorem Rw.setOut {w : World} {g cap n : Nat} {f : Nat → Nat} (h : Rw w g cap n f) (k : Nat) (v : Value) (hk : n ≤ k) : Rw (w.setCell ⟨g, k, none⟩ v) g cap n f := by
  obtain ⟨cur, h, hs, hn', hc⟩ := h
  refine ⟨cur.setIfInBounds k v, ?_, by simpa using hs, hn', fun j hj => ?_⟩
  · simp [World.setCell, Array.getElem?_modify, h]
  · rw [Array.getElem?_setIfInBounds, if_neg (by omega)]; exact hc j hj
theorem clear_run {w : World} {g cap q : Nat} {f : Nat → Nat} (h : Rw w g cap (q + 1) f) :
    ∃ w2, (Builtin.clear_ #[27] 0 #[.slice (some ⟨g, q, none⟩) 1 (cap - q)]).run Try.prog w = .ok (.tuple #[]) w2 ∧ Hid (Rw w2 g cap q f ∧ w.grownBy w2 (some g)) := by
  have hr := Lib.run_clear_slice (P := Try.prog) w 27 29 0 (.pointer none) Try.underlying27 zero29 rfl rfl g q 1 (cap - q) (by omega) (fun j hj => by
    obtain rfl : j = 0 := by omega
    rw [Nat.add_zero, h.cell (i := q) (by omega)]; rfl) (fun j hj => h.fz _)
  refine ⟨_, hr, ?_, ?_⟩
  · exact (h.less (by omega)).setOut q _ (Nat.le_refl _)
  · exact grown_set _ _ _ _

set_option maxRecDepth 100000 in
set_option maxHeartbeats 2000000 in
theorem delete_miss (g cap n b k : Nat) (p : Nat → Nat) (w : World) (h : Rw w g cap n p) (hk : w.cell? ⟨k, 0, none⟩ = some (pv b)) (hs : ∀ i, i < n → IsS w (p i)) (hb : IsS w b) (hn : n ≤ 4096) (h1 : ∀ i, i < n → p i ≠ b) :
    Calls Try.prog 26 #[.slice (some ⟨g, 0, none⟩) n cap, eqF k] w fun e w' => e = .returned (.slice (some ⟨g, 0, none⟩) n cap) ∧ w = w' := by
  have HX : Hid (Calls Try.prog 30 #[.slice (some ⟨g, 0, none⟩) n cap, eqF k] w fun e w' => e = .returned (.int .i64 (-1)) ∧ w = w') := index_any g cap n b k n p w h hk hs hb hn (Nat.le_refl _) h1 (-1) (.inr ⟨rfl, rfl⟩)
  clear h hk hs hb h1
  go_enter Try.func26, Try.ntmps26
  go_wp2_with (go_at_call 30; refine HX.out.mono ?_; rintro e w1 ⟨rfl, rfl⟩)
  go_ret
  exact ⟨rfl, rfl⟩

set_option maxRecDepth 100000 in
set_option maxHeartbeats 2000000 in
theorem delete_hit (g cap n b k m : Nat) (p : Nat → Nat) (w : World) (h : Rw w g cap n p) (hk : w.cell? ⟨k, 0, none⟩ = some (pv b)) (hkg : k ≠ g) (hs : ∀ i, i < n → IsS w (p i)) (hb : IsS w b) (hsg : ∀ i, i < n → p i ≠ g) (hbg : b ≠ g) (hn : n ≤ 4096) (hm : m < n) (h1 : ∀ i, i < n → i ≠ m → p i ≠ b) (h2 : p m = b) :
    Calls Try.prog 26 #[.slice (some ⟨g, 0, none⟩) n cap, eqF k] w fun e w' => e = .returned (.slice (some ⟨g, 0, none⟩) (n - 1) cap) ∧ Rw w' g cap (n - 1) (dl p m) ∧ w.grownBy w' (some g) := by
  have HX : Hid (Calls Try.prog 30 #[.slice (some ⟨g, 0, none⟩) n cap, eqF k] w fun e w' => e = .returned (.int .i64 m) ∧ w = w') := index_any g cap n b k m p w h hk hs hb hn (by omega) (fun i hi => h1 i (by omega) (by omega)) m (.inl ⟨hm, h2, rfl⟩)
  have HR : Hid (Rw w g cap n p) := h
  have HK : Hid (w.cell? ⟨k, 0, none⟩ = some (pv b)) := hk
  have HS : Hid (∀ i, i < n → IsS w (p i)) := hs
  have HB : Hid (IsS w b) := hb
  have HSG : Hid (∀ i, i < n → p i ≠ g) := hsg
  have H1 : Hid (∀ i, i < n → i ≠ m → p i ≠ b) := h1
  have H2 : Hid (p m = b) := h2
  clear h hk hs hb hsg h1 h2
  have hmm : ((m : Int) == -1) = false := by rw [beq_eq_false_iff_ne]; omega
  go_enter Try.func26, Try.ntmps26
  go_wp2_with (go_at_call 30; refine HX.out.mono ?_; rintro e w1 ⟨rfl, rfl⟩)
  go_loopw [5, 6] (fun vi vj wr => ∃ i : Nat, m ≤ i ∧ i < n ∧ vi = .int .i64 i ∧ vj = .int .i64 ((i : Int) + 1) ∧ Rw wr g cap n (dlTo p m i) ∧ w.grownBy wr (some g)) (fun vi _ _ => n - (intOf vi).toNat)
  case atStart => exact ⟨m, Nat.le_refl _, hm, rfl, by go_num, HR.out.congr (fun i _ => by unfold dlTo; rw [if_neg (by omega)]), grown_refl _ _⟩
  case round =>
    obtain ⟨i, hmi, hin, rfl, rfl, hr, hg⟩ := hrel
    have HRR : Hid (Rw wr g cap n (dlTo p m i)) := hr
    have HG : Hid (w.grownBy wr (some g)) := hg
    clear hg
    by_cases hlt : i + 1 < n
    · have hlt' : (i : Int) + 1 < n := by omega
      have c1 := hr.cell (i := i + 1) hlt
      rw [show dlTo p m i (i + 1) = p (i + 1) by unfold dlTo; rw [if_neg (by omega)]] at c1
      have c2 := hr.cell (i := i) (by omega)
      have f2 := hr.fz i
      clear hr
      have hd : decide (p (i + 1) = b) = false := by simpa using H1.out (i + 1) hlt (by omega)
      have hi' : (i : Int) < n := by omega
      have hi0 : (0 : Int) ≤ (i : Int) + 1 := by omega
      have HKR : Hid (wr.cell? ⟨k, 0, none⟩ = some (pv b)) := by
        have hb := (below_cell HG.out HK.out hkg)
        exact hb
      have HS1 : Hid (IsS wr (p (i + 1))) := (HS.out (i + 1) hlt).grown HG.out (by have := HSG.out (i + 1) hlt; simpa using this)
      have HSB : Hid (IsS wr b) := HB.out.grown HG.out (by simpa using hbg)
      go_wp2_with (go_at_call 27; refine (eqF_any (p (i + 1)) b k _ HKR.out HS1.out HSB.out).mono ?_; rintro e w1 ⟨rfl, rfl⟩)
      go_roundw
      case rel =>
        refine ⟨i + 1, by omega, hlt, by go_num, by go_num, ?_, grown_trans HG.out (grown_set _ _ _ _)⟩
        rw [← dlTo_step p m i hmi]
        exact HRR.out.set i _ (by omega)
      case measure => simp [intOf]; omega
    · have hlt' : decide ((i : Int) + 1 < n) = false := by simp; omega
      obtain rfl : n = i + 1 := by omega
      obtain ⟨w2, hcl, HCL⟩ := clear_run hr
      have hcp : i + 1 ≤ cap := by obtain ⟨_, _, _, h, _⟩ := hr; exact h
      clear hr
      have q1 : (i : Int) ≤ cap := by omega
      have q2 : (i : Int) + 1 ≤ cap := by omega
      have q3 : ¬ cap = i := by omega
      go_wp2
      go_ret
      refine ⟨rfl, HCL.out.1.congr fun x hx => ?_, grown_trans HG.out HCL.out.2⟩
      unfold dlTo dl
      repeat' split
      all_goals first | rfl | (exfalso; omega)
end Go.Proofs.Qxb6616745a
