import Derived.Test.Qxb6616745aU1
import Derived.Test.Qxb6616745aS9
import Derived.OwnWalk
namespace Go.Proofs.Qxb6616745a
open Go.RowKit

/-- Who waits, in order. -/
def wl (I U : Nat → Bool) (n : Nat) : List Nat := (List.range n).filter (waits I U)
theorem wl_succ_in {I U : Nat → Bool} {n : Nat} (h : waits I U n = true) : wl I U (n + 1) = wl I U n ++ [n] := by
  unfold wl; rw [List.range_succ, List.filter_append]; simp [h]
theorem wl_succ_out {I U : Nat → Bool} {n : Nat} (h : waits I U n = false) : wl I U (n + 1) = wl I U n := by
  unfold wl; rw [List.range_succ, List.filter_append]; simp [h]
theorem wl_length (I U : Nat → Bool) (n : Nat) : (wl I U n).length ≤ n := by
  unfold wl; exact Nat.le_trans (List.length_filter_le _ _) (by simp)
theorem wl_cnt (I U : Nat → Bool) (n : Nat) : (wl I U n).length = cnt (waits I U) n := by
  induction n with
  | zero => rfl
  | succ n ih =>
    cases h : waits I U n
    · rw [wl_succ_out h, ih]; simp [cnt, h]
    · rw [wl_succ_in h]; simp [cnt, h, ih]
theorem wl_mem {I U : Nat → Bool} {n i : Nat} : i ∈ wl I U n ↔ i < n ∧ waits I U i = true := by unfold wl; simp
theorem wl_inc (I U : Nat → Bool) (n i j : Nat) (h : i < j) (hj : j < (wl I U n).length) : (wl I U n).getD i 0 < (wl I U n).getD j 0 := by
  have hp : (wl I U n).Pairwise (· < ·) := List.Pairwise.filter _ List.pairwise_lt_range
  have := List.pairwise_iff_getElem.1 hp i j (by omega) hj h
  simpa [List.getD, hj, show i < (wl I U n).length by omega] using this
theorem wl_get {I U : Nat → Bool} {n j : Nat} (hj : j < (wl I U n).length) : (wl I U n).getD j 0 < n ∧ waits I U ((wl I U n).getD j 0) = true := by
  have : (wl I U n).getD j 0 ∈ wl I U n := by simp [List.getD, hj]
  exact wl_mem.1 this
theorem wl_find {I U : Nat → Bool} {n i : Nat} (h : i < n) (hw : waits I U i = true) : ∃ j, j < (wl I U n).length ∧ (wl I U n).getD j 0 = i := by
  obtain ⟨j, hj, e⟩ := List.getElem_of_mem (wl_mem.2 ⟨h, hw⟩)
  exact ⟨j, hj, by simp [List.getD, hj, e]⟩

theorem key_of {n : Nat} {p : Nat → Nat} (L : Nat → Int) (hinc : ∀ i j, i < j → j < n → p i < p j) : ∃ K : Nat → Int, ∀ i, i < n → K (p i) = L i := by
  classical
  refine ⟨fun b => if h : ∃ i, i < n ∧ p i = b then L (Classical.choose h) else 0, fun i hi => ?_⟩
  have h : ∃ j, j < n ∧ p j = p i := ⟨i, hi, rfl⟩
  have hs := Classical.choose_spec h
  have e : Classical.choose h = i := by
    rcases Nat.lt_trichotomy (Classical.choose h) i with hl | he | hg
    · have := hinc _ _ hl hi; omega
    · exact he
    · have := hinc _ _ hg hs.1; omega
  simp only [dif_pos h]
  rw [e]

/-- U with one turned to true. -/
def turn (U : Nat → Bool) (m : Nat) : Nat → Bool := fun i => if i = m then true else U i

/-- What fill does. -/
def FillTo (I U : Nat → Bool) (L : Nat → Int) (n : Nat) (U' : Nat → Bool) : Prop :=
  (((4 ≤ cnt U n ∨ cnt (waits I U) n = 0) ∧ U' = U) ∨
   (cnt U n = 3 ∧ ∃ m, m < n ∧ waits I U m = true ∧ (∀ j, j < n → waits I U j = true → j ≠ m → ahd L m j = true) ∧ U' = turn U m))

theorem own_rw {w : World} {base k : Nat} {v : Value} {xs : List Value} {f : Nat → Nat} (h : w.ownsRow base 29 1 v k xs) (hk : 0 < k) (hx : ∀ i, i < k → xs[i]? = some (pv (f i))) :
    ∃ g cap, v = .slice (some ⟨g, 0, none⟩) k cap ∧ base ≤ g ∧ Rw w g cap k f := by
  obtain ⟨hl, h | ⟨g, cap, cur, hv, hb, hg, hn, _, hs, ht⟩⟩ := h
  · omega
  · refine ⟨g, cap, hv, hb, cur, hg, by omega, hn, fun i hi => ?_⟩
    have h1 := hx i hi
    rw [← ht, Nat.mul_one, List.getElem?_take_of_lt hi] at h1
    simpa using h1

theorem new_cell (w : World) (v : Value) : ∀ j u, [v][j]? = some u → (w.alloc (.cells #[v] 29)).cell? ((⟨w.heap.size, 0, none⟩ : Addr).add j) = some u := by
  intro j u hu
  have hj : j = 0 := by
    have := (List.getElem?_eq_some_iff.1 hu).1
    simpa using this
  subst hj
  have h : (w.alloc (.cells #[v] 29)).heap[w.heap.size]? = some (.cells #[v] 29 (0, 0)) := Array.getElem?_push_size
  show (w.alloc (.cells #[v] 29)).cell? ⟨w.heap.size, 0, none⟩ = some u
  rw [cell_of_row _ w.heap.size 0 _ 29 (0, 0) h]
  simpa using hu
theorem own_keep {w w' : World} {base e sz n : Nat} {v : Value} {xs : List Value} (h : w.ownsRow base e sz v n xs) (hg : w.grownBy w' none) : w'.ownsRow base e sz v n xs := by
  obtain ⟨hl, h | ⟨g, cap, cur, hv, hb, hgg, rest⟩⟩ := h
  · exact ⟨hl, .inl h⟩
  · exact ⟨hl, .inr ⟨g, cap, cur, hv, hb, by rw [hg.block g (Array.getElem?_eq_some_iff.1 hgg).1 (by simp)]; exact hgg, rest⟩⟩
theorem own_new {w W w' : World} {e sz n : Nat} {v : Value} {xs : List Value} (h : W.ownsRow w.heap.size e sz v n xs) (h1 : w.grownBy W none) (hg : W.grownBy w' v.ownBlock) : w.grownBy w' none := by
  refine ⟨hg.os.trans h1.os, hg.tape.trans h1.tape, hg.output.trans h1.output, Nat.le_trans h1.size hg.size, fun i hi _ => (hg.block i (Nat.lt_of_lt_of_le hi h1.size) ?_).trans (h1.block i hi (by simp))⟩
  obtain ⟨_, ⟨rfl, _⟩ | ⟨g, cap, cur, rfl, hb, _⟩⟩ := h
  · simp [Value.ownBlock]
  · simp [Value.ownBlock]; omega

set_option maxRecDepth 100000 in
set_option maxHeartbeats 2000000 in
theorem fill_any (c g n cap : Nat) (o : Value) (r : Int) (p : Nat → Nat) (I U : Nat → Bool) (L : Nat → Int) (w : World) (hc : Ck w c (.slice (some ⟨g, 0, none⟩) n cap) o r) (hr : Rw w g cap n p) (hs : Sls w n p I U L)
    (hinc : ∀ i j, i < j → j < n → p i < p j) (hn : n ≤ 4096) (hinv : 4 ≤ cnt U n ∨ cnt (waits I U) n = 0 ∨ cnt U n = 3) :
    Calls Try.prog 28 #[pv c] w fun e w' => (∃ v, e = .returned v) ∧ ∃ U', FillTo I U L n U' ∧ Sls w' n p I U' L ∧ w.heap.size ≤ w'.heap.size ∧ w'.os = w.os ∧ w'.tape = w.tape ∧ w'.output = w.output ∧ (∀ b, b < w.heap.size → (∀ i, i < n → b ≠ p i) → w'.heap[b]? = w.heap[b]?) := by
  have c0 := hc.c0
  obtain ⟨i0, hi, hzz⟩ := Option.map_eq_some_iff.1 Try.info29
  simp only [Prod.mk.injEq] at hzz
  obtain ⟨hz0, hz1, hz2⟩ := hzz
  have HR : Hid (Rw w g cap n p) := hr
  have HS : Hid (Sls w n p I U L) := hs
  have HC : Hid (∀ i j, i < j → j < n → p i < p j) := hinc
  have HV : Hid (4 ≤ cnt U n ∨ cnt (waits I U) n = 0 ∨ cnt U n = 3) := hinv
  have HZ0 : Hid (i0.zero = some (.pointer none)) := hz0
  have HZ1 : Hid (i0.size = 1) := hz1
  have HZ2 : Hid (i0.bytes = 8) := hz2
  have HI0 : Hid (Try.prog.info? 29 = some i0) := hi
  clear hr hs hinc hinv hz0 hz1 hz2 hi hc
  go_enter Try.func28, Try.ntmps28
  go_wp2
  clear c0
  go_loopw [14, 3, 4] (fun vi vf vw wr => ∃ i : Nat, i ≤ n ∧ vi = .int .i64 i ∧ vf = .int .i64 (4 - (cnt U i : Int)) ∧ wr.ownsRow w.heap.size 29 1 vw (wl I U i).length ((wl I U i).map fun j => pv (p j)) ∧ w.grownBy wr none) (fun vi _ _ _ => n - (intOf vi).toNat)
  case atStart => exact ⟨0, Nat.zero_le _, rfl, rfl, ⟨rfl, .inl ⟨rfl, rfl⟩⟩, grown_refl _ _⟩
  case round =>
    obtain ⟨i, hin, rfl, rfl, how, hg⟩ := hrel
    have HG : Hid (w.grownBy wr none) := hg
    obtain ⟨k, hk⟩ : ∃ k, (wl I U i).length = k := ⟨_, rfl⟩
    have hkn : k ≤ i := by rw [← hk]; exact wl_length I U i
    rw [hk] at how
    have HK : Hid ((wl I U i).length = k) := hk
    have HO : Hid (wr.ownsRow w.heap.size 29 1 u4 k ((wl I U i).map fun j => pv (p j))) := how
    clear hg hk how
    have hcl := cnt_le U i
    obtain ⟨cu, hcu⟩ : ∃ c, cnt U i = c := ⟨_, rfl⟩
    rw [hcu] at hcl ⊢
    have HCU : Hid (cnt U i = cu) := hcu
    clear hcu
    by_cases hlt : i < n
    · have hlt' : (i : Int) < n := by omega
      have hrw := HR.out.grown HG.out (by simp)
      have c1 := hrw.cell hlt
      have hsl := (HS.out i hlt).grown HG.out (by simp)
      have c2 := hsl.c2
      have c3 := hsl.c3
      clear hrw hsl
      cases hu : U i
      · rw [hu] at c3
        cases hii : I i
        · rw [hii] at c2
          have e1 : cnt U (i + 1) = cu := by unfold cnt; rw [HCU.out, hu]; rfl
          have e2 : wl I U (i + 1) = wl I U i := wl_succ_out (by simp [waits, hu, hii])
          clear hu hii
          go_wp2
          go_roundw
          case rel => exact ⟨i + 1, by omega, by go_num, by rw [e1], by rw [e2, HK.out]; exact HO.out, HG.out⟩
          case measure => simp [intOf]; omega
        · rw [hii] at c2
          have e1 : cnt U (i + 1) = cu := by unfold cnt; rw [HCU.out, hu]; rfl
          have e2 : wl I U (i + 1) = wl I U i ++ [i] := wl_succ_in (by simp [waits, hu, hii])
          clear hu hii
          have HGA : Hid (w.grownBy (wr.alloc (.cells #[pv (p i)] 29)) none) := grown_trans HG.out (grown_alloc _ _ _)
          have HOA : Hid ((wr.alloc (.cells #[pv (p i)] 29)).ownsRow w.heap.size 29 1 u4 k ((wl I U i).map fun j => pv (p j))) := own_keep HO.out (grown_alloc _ _ _)
          go_wp2_with (at_builtin; refine wpList_append_own _ rfl (.tmp 28) (.tmp 30) 27 rfl w.heap.size 29 i0 (.pointer none) 1 8 Try.underlying27 HI0.out HZ0.out HZ1.out HZ2.out rfl (by decide) u4 k ((wl I U i).map fun j => pv (p j)) rfl HOA.out ⟨wr.heap.size, 0, none⟩ 1 1 [pv (p i)] rfl rfl (new_cell wr (pv (p i))) (by simp [Value.oneCell']) (by unfold maxLen; omega) (by omega) HGA.out.size ?_; intro v' w' hown' hgrow' hiff; have HO2 : Hid (w'.ownsRow w.heap.size 29 1 v' (k + 1) ((wl I U (i + 1)).map fun j => pv (p j))) := (by show World.ownsRow _ _ _ _ _ _ _; rw [e2, List.map_append]; exact hown'); have HG2 : Hid (w.grownBy w' none) := own_new HOA.out HGA.out hgrow'; clear hown' hgrow' hiff)
          go_roundw
          case rel => exact ⟨i + 1, by omega, by go_num, by rw [e1], by rw [show (wl I U (i + 1)).length = k + 1 by rw [e2]; simp [HK.out]]; exact HO2.out, HG2.out⟩
          case measure => simp [intOf]; omega
      · rw [hu] at c3
        have e1 : cnt U (i + 1) = cu + 1 := by unfold cnt; rw [HCU.out, hu]; rfl
        have e2 : wl I U (i + 1) = wl I U i := wl_succ_out (by simp [waits, hu])
        clear hu
        go_wp2
        go_roundw
        case rel => exact ⟨i + 1, by omega, by go_num, by rw [e1]; go_num, by rw [e2, HK.out]; exact HO.out, HG.out⟩
        case measure => simp [intOf]; omega
    · have hlt' : decide ((i : Int) < n) = false := by simp; omega
      obtain rfl : i = n := by omega
      have hkc : k = cnt (waits I U) i := by rw [← HK.out]; exact wl_cnt I U i
      have HKC : Hid (k = cnt (waits I U) i) := hkc
      clear hkc
      by_cases b1 : 4 ≤ cu
      · have b1' : (4 : Int) - cu ≤ 0 := by omega
        obtain ⟨a2, cap2, rfl⟩ : ∃ a2 cap2, u4 = .slice a2 k cap2 := by
          obtain ⟨_, ⟨h1, h2⟩ | ⟨g2, cap2, cur, h1, _⟩⟩ := HO.out
          · exact ⟨none, 0, by rw [h1, h2]⟩
          · exact ⟨_, _, h1⟩
        go_wp2
        go_ret
        exact ⟨⟨_, rfl⟩, U, .inl ⟨.inl (by rw [HCU.out]; exact b1), rfl⟩, HS.out.grown HG.out (by simp), HG.out.size, HG.out.os, HG.out.tape, HG.out.output, fun b hb _ => HG.out.block b hb (by simp)⟩
      · by_cases b2 : k = 0
        · obtain rfl := b2
          obtain ⟨a2, cap2, rfl⟩ : ∃ a2 cap2, u4 = .slice a2 0 cap2 := by
            obtain ⟨_, ⟨h1, h2⟩ | ⟨g2, cap2, cur, h1, _⟩⟩ := HO.out
            · exact ⟨none, 0, h1⟩
            · exact ⟨_, _, h1⟩
          have b1' : decide ((4 : Int) - cu ≤ 0) = false := by rw [decide_eq_false_iff_not]; omega
          go_wp2
          go_ret
          exact ⟨⟨_, rfl⟩, U, .inl ⟨.inr HKC.out.symm, rfl⟩, HS.out.grown HG.out (by simp), HG.out.size, HG.out.os, HG.out.tape, HG.out.output, fun b hb _ => HG.out.block b hb (by simp)⟩
        · have hcu : cu = 3 := by
            have h1 := HV.out
            have h2 := HKC.out
            have h3 := HCU.out
            omega
          obtain rfl := hcu
          obtain ⟨g2, cap2, rfl, hg2, hrw⟩ := own_rw (f := fun j => p ((wl I U i).getD j 0)) HO.out (by omega) (fun j hj => by
            have : j < (wl I U i).length := by rw [HK.out]; exact hj
            simp [List.getD, this])
          obtain ⟨K, hK⟩ := key_of L HC.out
          have HKY : Hid (∀ j, j < i → K (p j) = L j) := hK
          have HR2 : Hid (Rw wr g2 cap2 k (fun j => p ((wl I U i).getD j 0))) := hrw
          have HKEY : Hid (Keys wr g2 K (fun b => ∃ j, j < i ∧ p j = b)) := by
            rintro b ⟨j, hj, rfl⟩
            have hs := HS.out j hj
            refine ⟨by have := hs.lt; omega, I j, U j, ?_⟩
            rw [HKY.out j hj]; exact hs.grown HG.out (by simp)
          have HPP : Hid (∀ j, j < k → ∃ x, x < i ∧ p x = p ((wl I U i).getD j 0)) := fun j hj => ⟨_, (wl_get (by rw [HK.out]; exact hj)).1, rfl⟩
          have HINC : Hid (∀ x y, x < y → y < k → p ((wl I U i).getD x 0) < p ((wl I U i).getD y 0)) := fun x y hx hy =>
            HC.out _ _ (wl_inc I U i x y hx (by rw [HK.out]; exact hy)) (wl_get (by rw [HK.out]; exact hy)).1
          have hcap : (1 : Int) ≤ cap2 := by obtain ⟨_, _, _, h, _⟩ := hrw; omega
          clear hK hrw
          go_wp2_with (go_at_call 31; refine (sort_any g2 cap2 k K (fun b => ∃ j, j < i ∧ p j = b) _ _ HR2.out HKEY.out HPP.out HINC.out (by omega)).mono ?_; rintro e w1 ⟨rfl, ⟨f', hr', hso, hsa⟩, hgs⟩; have HRS : Hid (Rw w1 g2 cap2 k f') := hr'; have HSO : Hid (Sorted K f' 0 k) := hso; have HSA : Hid (Same (fun j => p ((wl I U i).getD j 0)) f' 0 k) := hsa; have HGS : Hid (wr.grownBy w1 (some g2)) := hgs; clear hr' hso hsa hgs)
          obtain ⟨j0, _, hj0, hj0e⟩ := HSA.out.2.1 0 (Nat.le_refl _) (by omega)
          obtain ⟨m, hm⟩ : ∃ m, (wl I U i).getD j0 0 = m := ⟨_, rfl⟩
          have hmg := wl_get (I := I) (U := U) (n := i) (j := j0) (by rw [HK.out]; exact hj0)
          replace hj0e : f' 0 = p ((wl I U i).getD j0 0) := hj0e
          rw [hm] at hmg hj0e
          have HM : Hid (m < i ∧ waits I U m = true) := hmg
          have HF0 : Hid (f' 0 = p m) := hj0e
          have HGN : Hid (w.grownBy w1 none) := grown_new HG.out HGS.out hg2
          have HFIL : Hid (FillTo I U L i (turn U m)) := by
            refine .inr ⟨HCU.out, m, hmg.1, hmg.2, fun j hj hw hjm => ?_, rfl⟩
            obtain ⟨x, hx, hxe⟩ := wl_find hj hw
            obtain ⟨y, _, hy, hye⟩ := HSA.out.2.2 x (Nat.zero_le _) (by rw [← HK.out]; exact hx)
            replace hye : f' y = p ((wl I U i).getD x 0) := hye
            rw [hxe] at hye
            have hy0 : 0 < y := by
              rcases Nat.eq_zero_or_pos y with h | h
              · subst h
                rw [HF0.out] at hye
                exfalso
                rcases Nat.lt_trichotomy j m with h1 | h1 | h1
                · have := HC.out j m h1 hmg.1; omega
                · exact hjm h1
                · have := HC.out m j h1 hj; omega
              · exact h
            have hlt := HSO.out 0 y (Nat.le_refl _) hy0 hy
            rw [HF0.out, hye] at hlt
            unfold Lt at hlt
            rw [HKY.out m hmg.1, HKY.out j hj] at hlt
            unfold ahd
            simp only [Bool.or_eq_true, Bool.and_eq_true, decide_eq_true_eq]
            rcases hlt with h | ⟨h, h'⟩
            · exact .inl h
            · refine .inr ⟨h, ?_⟩
              rcases Nat.lt_trichotomy m j with h1 | h1 | h1
              · exact h1
              · exact absurd h1.symm hjm
              · have := HC.out j m h1 hmg.1; omega
          have hcell := HRS.out.cell (i := 0) (by omega)
          rw [hj0e] at hcell
          have hslm := (HS.out m hmg.1).grown HGN.out (by simp)
          have hsc := hslm.c3
          have hsf := hslm.fz 3
          clear hj0e hm hmg hj0 hslm
          go_loopw [49] (fun vi wr => (vi = .int .i64 0 ∧ wr = w1) ∨ (vi = .int .i64 1 ∧ wr = w1.setCell ⟨p m, 3, none⟩ (.bool true))) (fun vi _ => (1 - intOf vi).toNat)
          case atStart => exact .inl ⟨rfl, rfl⟩
          case round =>
            rcases hrel with ⟨rfl, rfl⟩ | ⟨rfl, rfl⟩
            · go_wp2
              go_roundw
              case rel => exact .inr ⟨rfl, trivial⟩
              case measure => simp [intOf]
            · go_wp2
              go_ret
              refine ⟨⟨_, rfl⟩, turn U m, HFIL.out, fun j hj => ?_, ?_, HGN.out.os, HGN.out.tape, HGN.out.output, fun b hb hne => ?_⟩
              · have hsj := (HS.out j hj).grown HGN.out (by simp)
                by_cases e : j = m
                · subst e
                  have : turn U j j = true := by simp [turn]
                  rw [this]
                  exact hsj.set3 true
                · have : turn U m j = U j := by simp [turn, e]
                  rw [this]
                  refine hsj.grown (grown_set _ _ _ _) ?_
                  rcases Nat.lt_trichotomy j m with h1 | h1 | h1
                  · have := HC.out j m h1 HM.out.1; simp; omega
                  · exact absurd h1 e
                  · have := HC.out m j h1 hj; simp; omega
              · exact Nat.le_trans HGN.out.size (grown_set w1 (p m) 3 (.bool true)).size
              · rw [(grown_set w1 (p m) 3 (.bool true)).block b (Nat.lt_of_lt_of_le hb HGN.out.size) (by have := hne m HM.out.1; simpa using this)]
                exact HGN.out.block b hb (by simp)
end Go.Proofs.Qxb6616745a
