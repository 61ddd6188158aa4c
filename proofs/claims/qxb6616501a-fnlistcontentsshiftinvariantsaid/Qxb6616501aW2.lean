import Derived.Test.Qxb6616501aW1
import Derived.Laws.CopyOwn
import Derived.Deep.QuietTactic
import Derived.BigQuiet
namespace Go.Proofs.Qxb6616501a
open Go.RowKit

set_option maxHeartbeats 400000 in
theorem bytes_no (a0 a1 a2 : Option Addr) (l0 c0 l1 c1 l2 c2 : Nat) (b : Bool) (x y z : Int) (w : World)
    (m0 : l0 ≤ maxLen) (m1 : l1 ≤ maxLen) (m2 : l2 ≤ maxLen) (h : 1048576 < l0 + l1 + l2) :
    Calls Try.prog 4 #[.slice a0 l0 c0, .slice a1 l1 c1, .slice a2 l2 c2, .bool b, .int .i64 x, .int .i64 y, .int .i64 z] w fun e w' =>
      e = .returned (.bool false) ∧ w = w' := by
  unfold maxLen at m0 m1 m2
  by_cases h0 : 1048576 < l0
  · go_enter Try.func4, Try.ntmps4
    go_wp2
    go_ret
    exact ⟨rfl, rfl⟩
  by_cases h1 : 1048576 < l1
  · go_enter Try.func4, Try.ntmps4
    go_wp2
    go_ret
    exact ⟨rfl, rfl⟩
  by_cases h2 : 1048576 < l0 + l1
  · go_enter Try.func4, Try.ntmps4
    go_wp2
    go_ret
    exact ⟨rfl, rfl⟩
  by_cases h3 : 1048576 < l2
  · go_enter Try.func4, Try.ntmps4
    go_wp2
    go_ret
    exact ⟨rfl, rfl⟩
  go_enter Try.func4, Try.ntmps4
  go_wp2
  go_ret
  exact ⟨rfl, rfl⟩

/-- What a slice of bytes reads as: the cells of its elements. -/
def Src (w : World) (ao : Option Addr) (len cap : Nat) (xs : List Int) : Prop :=
  xs.length = len ∧ (ao = none → len = 0 ∧ cap = 0) ∧ ∀ ad, ao = some ad → ∀ j u, (xs.map (Value.int .u8))[j]? = some u → w.cell? (ad.add j) = some u

theorem Src.below {w w' : World} {ao : Option Addr} {len cap : Nat} {xs : List Int} (h : Src w ao len cap xs) (hb : Below w.heap.size w w') : Src w' ao len cap xs := by
  refine ⟨h.1, h.2.1, fun ad had j u hu => ?_⟩
  have hc := h.2.2 ad had j u hu
  have hlt := World.block_lt_of_cell? w _ hc
  rw [hb.cell hlt]
  exact hc

theorem own_cur {w : World} {base e n cap g : Nat} {xs : List Value} (h : w.ownsRow base e 1 (.slice (some ⟨g, 0, none⟩) n cap) n xs) :
    ∃ cur : List Value, w.heap[g]? = some (.cells cur.toArray e (0, 0)) ∧ cur.length = cap ∧ cur.take n = xs := by
  rcases h.2 with ⟨h, _⟩ | ⟨g', cap', cur, hv, _, hg, _, _, hs, ht⟩
  · cases h
  · simp only [Value.slice.injEq, Option.some.injEq, Addr.mk.injEq] at hv
    obtain ⟨⟨rfl, _, _⟩, _, rfl⟩ := hv
    exact ⟨cur.toList, by simpa using hg, by simpa using hs, by simpa using ht⟩

theorem splice_whole {α : Type} (cur D : List α) (h : cur.length = D.length) : splice cur 0 D = D := by
  simp [splice, ← h]

theorem Try.info5 : (Try.prog.info? 5).map (fun i => (i.zero, i.size, i.bytes)) = some (some (.int .u8 0), 1, 1) := by kernel_rfl
theorem Try.size5 : (Try.prog.info? 5).map (·.size) = some 1 := by kernel_rfl

theorem copy_run {w w1 : World} {x : Addr} {len0 cap0 g : Nat} {D : List Int} (s : Src w1 (some x) len0 cap0 D) (cur : List Value)
    (hcur : w1.heap[g]? = some (.cells cur.toArray 5 (0, 0))) (hcl : cur.length = len0) (hb : Below g w w1) :
    ∃ w2, (Builtin.copy_ #[22, 22] 3 #[.slice (some ⟨g, 0, none⟩) len0 len0, .slice (some x) len0 cap0]).run Try.prog w1 = .ok (.int .i64 len0) w2 ∧
      Hid (w2.heap[g]? = some (.cells (D.map (Value.int .u8)).toArray 5 (0, 0))) ∧ Below g w w2 := by
  have hl : (D.map (Value.int .u8)).length = len0 := by simp [s.1]
  have hr := run_copy_row (P := Try.prog) w1 22 22 3 5 g 0 len0 len0 x len0 cap0 cur.toArray 5 (D.map (Value.int .u8)) Try.underlying22 Try.size5 hcur (by simp [s.1]) (s.2.2 x rfl) (by simp [s.1, hcl]) (ints_oneCell _ _)
  have e2 : goInt ((D.map (Value.int .u8)).length : Int) = .int .i64 len0 := by rw [hl]; rfl
  rw [e2] at hr
  refine ⟨_, hr, ?_, below_setRow hb (Nat.le_refl _) _⟩
  have := setRow_heap w1 g cur.toArray (cur.toArray.toList.take 0 ++ D.map (Value.int .u8) ++ cur.toArray.toList.drop (0 + (D.map (Value.int .u8)).length)).toArray 5 _ hcur
  have e : (cur.toArray.toList.take 0 ++ D.map (Value.int .u8) ++ cur.toArray.toList.drop (0 + (D.map (Value.int .u8)).length)) = D.map (Value.int .u8) := by
    rw [List.drop_eq_nil_of_le (by simp [s.1, hcl])]; simp
  rw [e] at this ⊢
  exact this

/-- The data's row, held while the moved row is filled. -/
def Row (w : World) (g : Nat) (D : List Int) : Prop := w.heap[g]? = some (.cells (D.map (Value.int .u8)).toArray 5 (0, 0))

theorem Row.src {w : World} {g : Nat} {D : List Int} (h : Row w g D) (len cap : Nat) (hl : D.length = len) : Src w (some ⟨g, 0, none⟩) len cap D := by
  refine ⟨hl, (fun h => by simp at h), fun ad had j u hu => ?_⟩
  obtain rfl := Option.some.inj had
  have hadd : (⟨g, 0, none⟩ : Addr).add j = ⟨g, j, none⟩ := by unfold Addr.add; split <;> simp_all
  rw [hadd, cell_of_row w g j _ 5 (0, 0) h]
  simpa using hu

theorem Row.cell {w : World} {g : Nat} {D : List Int} (h : Row w g D) (j : Nat) (hj : j < D.length) : w.cell? ⟨g, j, none⟩ = some (.int .u8 (D.getD j 0)) := by
  rw [cell_of_row w g j _ 5 (0, 0) h]
  simp [List.getD, hj]

theorem getD_mid (P D S : List Int) (j i : Nat) (hi : i = P.length + j) (hj : j < D.length) : (P ++ D ++ S).getD i 0 = D.getD j 0 := by
  subst hi
  simp [List.getD, List.append_assoc, List.getElem?_append_right, List.getElem?_append_left, hj]

theorem Row.grown {w w' : World} {g g' : Nat} {D : List Int} (h : Row w g D) (hg : w.grownBy w' (some g')) (hne : g ≠ g') : Row w' g D := by
  unfold Row
  rw [hg.block g (Array.getElem?_eq_some_iff.1 h).1 (by simpa using hne)]
  exact h

theorem Row.grown0 {w w' : World} {g : Nat} {D : List Int} (h : Row w g D) (hg : w.grownBy w' none) : Row w' g D := by
  unfold Row
  rw [hg.block g (Array.getElem?_eq_some_iff.1 h).1 (by simp)]
  exact h

theorem Src.grown {w0 w w' : World} {ao : Option Addr} {len cap : Nat} {xs : List Int} {g : Nat} (h : Src w0 ao len cap xs) (hb : Below w0.heap.size w0 w) (hg : w.grownBy w' (some g)) (hgs : w0.heap.size ≤ g) : Src w' ao len cap xs :=
  h.below (hb.grown hg hb.size (fun k hk => by obtain rfl := Option.some.inj hk; exact hgs))

theorem eql_nil (w : World) (a : Option Addr) (n c : Nat) : (binOp .eql 22 (.slice a n c) (.slice none 0 0)).run Try.prog w = .ok (.bool a.isNone) w :=
  Lib.run_eql_slice_nil w 22 5 a n c 0 0 Try.underlying22

set_option maxRecDepth 100000 in
set_option maxHeartbeats 1000000 in
theorem law_def (x : Addr) (len0 cap0 : Nat) (D : List Int) (a1 : Option Addr) (len1 cap1 : Nat) (Pf : List Int) (a2 : Option Addr) (len2 cap2 : Nat) (Sf : List Int) (off hl cl : Nat) (w : World)
    (s0 : Src w (some x) len0 cap0 D) (s1 : Src w a1 len1 cap1 Pf) (s2 : Src w a2 len2 cap2 Sf) (hsum : len0 + len1 + len2 ≤ 1048576) (hh : 0 < hl) (hfit : off + hl + cl ≤ len0) :
    Calls Try.prog 3 #[.slice (some x) len0 cap0, .slice a1 len1 cap1, .slice a2 len2 cap2, .bool false, .int .i64 off, .int .i64 hl, .int .i64 cl] w fun e w' => e = .returned (.bool true) ∧ Below w.heap.size w w' := by
  obtain ⟨i0, hi, hz0, hz1, hz2⟩ := info_parts Try.info5
  have hen := eql_nil
  have g0 : (0 : Int) < hl := by omega
  have g1 : ((hl : Int) == 0) = false := by simp; omega
  have g2 : (decide ((1048576 : Int) < len0)) = false := by simp; omega
  have g3 : (decide ((1048576 : Int) < len1)) = false := by simp; omega
  have g4 : (decide ((1048576 : Int) < len2)) = false := by simp; omega
  have g5 : (decide ((off : Int) < 0)) = false := by simp
  have g6 : (decide ((hl : Int) < 0)) = false := by simp
  have g7 : (decide ((cl : Int) < 0)) = false := by simp
  have g8 : (decide ((len0 : Int) < off)) = false := by simp; omega
  have g9 : (decide ((len0 : Int) < hl)) = false := by simp; omega
  have g10 : (decide ((len0 : Int) < cl)) = false := by simp; omega
  have g11 : (decide ((len0 : Int) < off + hl + cl)) = false := by simp; omega
  go_enter Try.func3, Try.ntmps3
  go_wp2_with (first
    | (go_at_call 4; refine (bytes_any _ _ _ _ _ _ _ _ _ _ _ _ _ _ (by omega) (by omega) (by omega) (by omega)).mono ?_; rintro e w' ⟨rfl, rfl⟩)
    | (at_make; refine wpList_make_full _ rfl (.tmp 83) (.tmp 83) 22 rfl w.heap.size 5 i0 (.int .u8 0) 1 Try.underlying22 hi hz0 hz1 .i64 .i64 _ _ len0 rfl rfl rfl rfl (by rw [hz2]; omega) (by unfold maxLen; omega) (Nat.le_refl _) ?_; intro w1 hown1 hgrow1; obtain ⟨cur, hcur, hcl, hct⟩ := own_cur hown1; have hb1 := (Below.refl w.heap.size w).grown hgrow1 (Nat.le_refl _) (by simp); obtain ⟨w2, hrun, HR, hb2⟩ := copy_run (s0.below hb1) cur hcur hcl hb1; clear hown1 hgrow1 hcur hcl hct)
    | (at_make; refine wpList_make_own _ rfl _ (.tmp 96) 22 rfl w2.heap.size 5 i0 (.int .u8 0) 1 Try.underlying22 hi hz0 hz1 .i64 .i64 _ (len1 + len0 + len2) rfl rfl (by omega) (by rw [hz2]; omega) (by unfold maxLen; omega) (Nat.le_refl _) ?_; intro w3 hown3 hgrow3; have R3 : Row w3 w.heap.size D := (show Row w2 w.heap.size D from HR.out).grown0 hgrow3; have hb3 := hb2.grown hgrow3 hb2.size (by simp); have hlt : w.heap.size < w2.heap.size := (Array.getElem?_eq_some_iff.1 HR.out).1; clear hrun)
    | (at_builtin; refine wpList_append_fits_any _ rfl (.tmp 98) (.tmp 99) 22 rfl w2.heap.size 5 i0 1 Try.underlying22 hi hz1 w2.heap.size 0 (len1 + len0 + len2) [] rfl hown3 a1 len1 cap1 (Pf.map (Value.int .u8)) rfl (by simp [s1.1]) s1.2.1 (s1.below hb3).2.2 (ints_oneCell _ _) (by omega) ?_; intro w4 hown4 hgrow4; simp only [Nat.zero_add, List.nil_append] at hown4; have R4 : Row w4 w.heap.size D := R3.grown hgrow4 (by omega); have hb4 := hb3.grown hgrow4 hb3.size (fun k hk => by obtain rfl := Option.some.inj hk; exact hb2.size); clear hown3)
    | (at_builtin; refine wpList_append_fits_any _ rfl (.tmp 101) (.tmp 102) 22 rfl w2.heap.size 5 i0 1 Try.underlying22 hi hz1 w2.heap.size len1 (len1 + len0 + len2) _ rfl hown4 (some ⟨w.heap.size, 0, none⟩) len0 len0 (D.map (Value.int .u8)) rfl (by simp [s0.1]) (by simp) (R4.src len0 len0 s0.1).2.2 (ints_oneCell _ _) (by omega) ?_; intro w5 hown5 hgrow5; have R5 : Row w5 w.heap.size D := R4.grown hgrow5 (by omega); have hb5 := hb4.grown hgrow5 hb4.size (fun k hk => by obtain rfl := Option.some.inj hk; exact hb2.size); clear hown4)
    | (at_builtin; refine wpList_append_fits_any _ rfl (.tmp 104) (.tmp 105) 22 rfl w2.heap.size 5 i0 1 Try.underlying22 hi hz1 w2.heap.size (len1 + len0) (len1 + len0 + len2) _ rfl hown5 a2 len2 cap2 (Sf.map (Value.int .u8)) rfl (by simp [s2.1]) s2.2.1 (s2.below hb5).2.2 (ints_oneCell _ _) (by omega) ?_; intro w6 hown6 hgrow6; have R6 : Row w6 w.heap.size D := R5.grown hgrow6 (by omega); have hb6 := hb5.grown hgrow6 hb5.size (fun k hk => by obtain rfl := Option.some.inj hk; exact hb2.size); clear hown5 R3 R4 R5 hb3 hb4 hb5 hgrow3 hgrow4 hgrow5 hgrow6))
  refine (list_some w.heap.size 0 len0 len0 off hl cl w6 (by omega) (by omega) (by omega) (by omega) (Nat.le_refl _) (by omega)).mono ?_
  rintro e w7 ⟨o1, ho1, rfl, hb7⟩
  have HO1 : Hid (0 < cl → o1 = off + hl) := by intro h; have := ho1 (by omega); omega
  have R7 : Row w7 w.heap.size D := by unfold Row; rw [hb7.block w.heap.size (Array.getElem?_eq_some_iff.1 R6).1]; exact R6
  obtain ⟨curM, HM6, HcurM, HtM⟩ := own_cur hown6
  have RM7 : Row w7 w2.heap.size (Pf ++ D ++ Sf) := by
    unfold Row
    rw [hb7.block w2.heap.size (Array.getElem?_eq_some_iff.1 HM6).1, HM6, ← List.take_of_length_le (Nat.le_of_eq HcurM), HtM]
    simp
  clear ho1 HM6 HcurM HtM hown6
  go_wp2_with fail
  refine (list_some w2.heap.size 0 (len1 + len0 + len2) (len1 + len0 + len2) (off + len1) hl cl w7 (by omega) (by omega) (by omega) (by omega) (Nat.le_refl _) (by omega)).mono ?_
  rintro e w8 ⟨o2, ho2, rfl, hb8⟩
  have HO2 : Hid (0 < cl → o2 = off + len1 + hl) := by intro h; have := ho2 (by omega); omega
  have R8 : Row w8 w.heap.size D := by unfold Row; rw [hb8.block w.heap.size (Array.getElem?_eq_some_iff.1 R7).1]; exact R7
  have RM8 : Row w8 w2.heap.size (Pf ++ D ++ Sf) := by unfold Row; rw [hb8.block w2.heap.size (Array.getElem?_eq_some_iff.1 RM7).1]; exact RM7
  have hb8' : Below w.heap.size w w8 := (hb6.trans (hb7.mono hb6.size)).trans (hb8.mono (Nat.le_trans hb6.size hb7.size))
  clear ho2 R6 R7 RM7 hb6 hb7 hb8 hb1 hb2 HR
  go_wp2_with fail
  go_loopw [19] (fun i wr => ∃ k : Nat, k ≤ cl ∧ i = .int .i64 k ∧ Row wr w.heap.size D ∧ Row wr w2.heap.size (Pf ++ D ++ Sf) ∧ Below w.heap.size w wr) (fun i _ => cl - (intOf i).toNat)
  case atStart => exact ⟨0, Nat.zero_le _, rfl, R8, RM8, hb8'⟩
  case round =>
    obtain ⟨k, hk, rfl, RD, RM, hbr⟩ := hrel
    by_cases hlt' : k < cl
    · obtain ⟨X, hX⟩ : ∃ X, X = D.getD (off + hl + k) 0 := ⟨_, rfl⟩
      have hDl := s0.1
      have hPl := s1.1
      have c1 : wr.cell? ⟨w.heap.size, off + hl + k, none⟩ = some (.int .u8 X) := by rw [hX]; exact RD.cell _ (by omega)
      have c2 : wr.cell? ⟨w2.heap.size, off + len1 + hl + k, none⟩ = some (.int .u8 X) := by
        rw [hX, ← getD_mid Pf D Sf (off + hl + k) (off + len1 + hl + k) (by omega) (by omega)]
        exact RM.cell _ (by simp; omega)
      have e1 := HO1.out (by omega)
      have e2 := HO2.out (by omega)
      subst e1
      subst e2
      have HX : Hid (X = D.getD (off + hl + k) 0) := hX
      clear hX hDl hPl
      have b1 : (k : Int) < (cl : Int) := by omega
      have b2 : ((off : Int) + hl + k) < (len0 : Int) := by omega
      go_wp2
      go_quiet (fail)
      go_wp2
      go_roundw
      case rel => exact ⟨k + 1, by omega, by go_num, RD, RM, below_drewN hbr _⟩
      case measure => simp [intOf]; omega
    · go_wp2
      go_ret
      exact ⟨rfl, hbr⟩
end Go.Proofs.Qxb6616501a
