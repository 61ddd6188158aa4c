import Derived.Test.Qxb6616745aV4
namespace Go.Proofs.Qxb6616745a
open Go.RowKit

set_option maxRecDepth 100000 in
set_option maxHeartbeats 2000000 in
theorem law3_hit_in (n cap0 N k : Nat) (rounds : Int) (oi ou : Bool) (ol : Int) (I U : Nat → Bool) (L : Nat → Int) (w : World) (x : Addr) (hi : In w N (some x) n I U L) (hxN : x.block < N) (hN : N ≤ w.heap.size) (hn : n ≤ 4096) (h : InvB I U n = true) (hk : k < n) (l0 : -9223372036854775808 ≤ ol) (l1 : ol ≤ 9223372036854775807)
    (q : Nat) (hqn : q < n) (n' : Nat) (hn' : n = n' + 1) :
    Calls Try.prog 3 #[.slice (some x) n cap0, .int .i64 k, sv oi ou ol, .int .i64 q, .int .i64 rounds] w fun e w' => e = .returned (.bool true) ∧ Below N w w' := by
  have h2' : decide ((4096 : Int) < n) = false := by rw [decide_eq_false_iff_not]; omega
  have hkn : (k : Int) < n := by omega
  have hqn' : (q : Int) < n := by omega
  have hlen : ((n' : Int) != (n : Int) - 1) = false := by simp; omega
  have HN' : Hid (n = n' + 1) := hn'
  have HXN : Hid (x.block < N) := hxN
  have HI : Hid (In w N (some x) n I U L) := hi
  have HV : Hid (InvB I U n = true) := h
  have HG0 : Hid (w.grownBy (w.alloc (.cells #[.bool oi, .bool ou, .int .i64 ol] 24)) none) := grown_alloc _ _ _
  have HOB : Hid (Ob (w.alloc (.cells #[.bool oi, .bool ou, .int .i64 ol] 24)) w.heap.size oi ou ol) := Ob.new _ _ _ _
  clear hi hxN hn'
  go_enter Try.func3, Try.ntmps3
  go_wp2_with (first
    | (go_at_call 5; refine (bytes5_any (some x) n cap0 k q rounds oi ou ol _ (by unfold maxLen; omega) true (by simp; omega)).mono ?_; rintro e w0 ⟨rfl, hg0⟩; have HG : Hid (w.grownBy w0 none) := grown_trans HG0.out hg0; have HIW : Hid (In w0 N (some x) n I U L) := HI.out.below (below_grown HG.out hN (by simp)); have HOB0 : Hid (Ob w0 w.heap.size oi ou ol) := HOB.out.grown hg0 (by simp); clear hg0)
    | (go_at_call 6; refine (inv_any (some x) n cap0 N I U L _ HIW.out hn).mono ?_; rintro e w1 ⟨rfl, rfl⟩)
    | (go_at_call 7; refine (build_any (some x) n cap0 N I U L _ HIW.out (Nat.le_trans hN HG.out.size) hn).mono ?_; rintro e w1 ⟨gp, p, rfl, hgp, hrp, hsl, hinc, hpg, hg1⟩; have HGP : Hid (w0.heap.size ≤ gp) := hgp; have HRP : Hid (Rw w1 gp n n p) := hrp; have HSL : Hid (Sls w1 n p I U L) := hsl; have HINC : Hid (∀ i j, i < j → j < n → p i < p j) := hinc; have HPG : Hid (∀ i, i < n → gp < p i) := hpg; have HG1 : Hid (w0.grownBy w1 none) := hg1; have hob1 := HOB0.out.grown hg1 (by simp); have o0 := hob1.c0; have o1 := hob1.c1; have o2 := hob1.c2; have HOB1 : Hid (Ob w1 w.heap.size oi ou ol) := hob1; clear hgp hrp hsl hinc hpg hg1 hob1)
    | (go_at_call 8; refine (newSlot_any oi ou ol _ l0 l1).mono ?_; rintro e w2 ⟨b, rfl, hb, hsb, hg2⟩; have HB : Hid (w1.heap.size ≤ b) := hb; have HSB : Hid (Sl w2 b oi ou ol) := hsb; have HG2 : Hid (w1.grownBy w2 none) := hg2; have hrp2 := HRP.out.grown hg2 (by simp); have hcq2 := hrp2.cell hqn; have hck2 := hrp2.cell hk; obtain ⟨x0, x1, x2⟩ := (HIW.out.below (below_grown (grown_trans HG1.out hg2) (Nat.le_trans hN HG.out.size) (by simp))).at k hk; have hob2 := HOB1.out.grown hg2 (by simp); have o0 := hob2.c0; have o1 := hob2.c1; have o2 := hob2.c2; have ngp : gp < w2.heap.size := hrp2.lt; have nx : (x.add (k * 3)).block < w2.heap.size := (by rw [add_block]; exact (Nat.lt_of_lt_of_le HXN.out (Nat.le_trans hN (Nat.le_trans HG.out.size (Nat.le_trans HG1.out.size hg2.size))))); clear hb hsb hg2 hrp2 hob2)
    | (go_at_call 10; refine (clone_any gp n p _ ((HRP.out.grown HG2.out (by simp)).grown (grown_alloc _ _ none) (by simp)) hn).mono ?_; rintro e w3 ⟨gc, rfl, hgc, hrc, hg3⟩; have HGC : Hid (w2.heap.size < gc) := Nat.lt_of_lt_of_le (by simp) hgc; have HRC : Hid (Rw w3 gc n n p) := hrc; have HOB3 : Hid (Ob w3 w2.heap.size (I k) (U k) (L k)) := (Ob.new w2 (I k) (U k) (L k)).grown hg3 (by simp); have HG3 : Hid (w2.grownBy w3 none) := grown_trans (grown_alloc _ _ _) hg3; clear hgc hrc hg3)
    | (go_at_call 9; refine (newChoker_any gc n n (some ⟨p q, 0, none⟩) rounds _).mono ?_; rintro e w4 ⟨c, rfl, hc, hck, hg4⟩; have HZ : Hid (Z3 w4 N (some x) n I U L gp gc c p (some ⟨p q, 0, none⟩) rounds w2.heap.size (I k) (U k) (L k)) := z3_mk hN HG.out HI.out HGP.out HG1.out HRP.out HSL.out HINC.out HPG.out HG2.out HGC.out HRC.out HOB3.out HG3.out hc hck hg4; have HBL4 : Hid (Below N w w4) := below_grown (grown_trans HG.out (grown_trans HG1.out (grown_trans HG2.out (grown_trans HG3.out hg4)))) hN (by simp); clear hc hck hg4)
    | (go_at_call 11; refine (rem3_hit HZ.out k hk hn HV.out).mono ?_; rintro e w5 ⟨rfl, V, hfin, hm3, hob5, hbl5⟩; have HF : Hid (Final I U L n k V) := hfin; have HM : Hid (M3 w5 N (some x) n I U L gp gc c n' p (dl p k) V (some ⟨p q, 0, none⟩) rounds (p k) (I k) (U k) (L k)) := (by have e : n - 1 = n' := (by have := HN'.out; omega); rw [← e]; exact hm3); have HOB5 : Hid (Ob w5 w2.heap.size (I k) (U k) (L k)) := hob5; have HBL5 : Hid (Below N w w5) := HBL4.out.trans hbl5; clear hfin hm3 hob5 hbl5)
    | (go_at_call 12; refine (slots_any c _ _ _ _ HM.out.ck ⟨_, _, _, rfl⟩).mono ?_; rintro e w6 ⟨rfl, rfl⟩))
  have HCL : Hid (∀ m, cnt (fun j => !decide ((j : Int) = (k : Int)) && U j) m ≤ m) := fun m => cnt_le _ m
  clear hcq2 hck2 x0 x1 x2 o0 o1 o2 ngp nx
  go_loopw [21, 22] (fun vf vi wr => ∃ i : Nat, i ≤ n ∧ vi = .int .i64 i ∧ vf = .int .i64 (4 - (cnt (fun j => !decide ((j : Int) = (k : Int)) && U j) i : Int)) ∧ M3 wr N (some x) n I U L gp gc c n' p (dl p k) V (some ⟨p q, 0, none⟩) rounds (p k) (I k) (U k) (L k) ∧ Ob wr w2.heap.size (I k) (U k) (L k) ∧ Below N w wr) (fun _ vi _ => n - (intOf vi).toNat)
  case atStart => exact ⟨0, Nat.zero_le _, rfl, rfl, HM.out, HOB5.out, HBL5.out⟩
  case round =>
    obtain ⟨i, hin, rfl, rfl, hm, hob, hbl⟩ := hrel
    have HMR : Hid (M3 wr N (some x) n I U L gp gc c n' p (dl p k) V (some ⟨p q, 0, none⟩) rounds (p k) (I k) (U k) (L k)) := hm
    have HOR : Hid (Ob wr w2.heap.size (I k) (U k) (L k)) := hob
    have HBR : Hid (Below N w wr) := hbl
    clear hm hob hbl
    have hcl := HCL.out i
    obtain ⟨cu, hcu⟩ : ∃ cu, cnt (fun j => !decide ((j : Int) = (k : Int)) && U j) i = cu := ⟨_, rfl⟩
    rw [hcu] at hcl ⊢
    have HCU : Hid (cnt (fun j => !decide ((j : Int) = (k : Int)) && U j) i = cu) := hcu
    clear hcu
    by_cases hlt : i < n
    · have hlt' : (i : Int) < n := by omega
      obtain ⟨x0, x1, x2⟩ := HMR.out.inp.at i hlt
      clear x0 x2
      by_cases hir : (i : Int) = k
      · have hir' : ((i : Int) != k) = false := by simp; omega
        have e1 : cnt (fun j => !decide ((j : Int) = (k : Int)) && U j) (i + 1) = cu := by simp only [cnt]; rw [HCU.out]; simp [hir]
        clear hir
        go_wp2
        go_roundw
        case rel => exact ⟨i + 1, by omega, by go_num, by rw [e1], HMR.out, HOR.out, HBR.out⟩
        case measure => simp [intOf]; omega
      · have hir' : ((i : Int) != k) = true := by rw [bne_iff_ne]; exact hir
        cases hu : U i
        · rw [hu] at x1
          have e1 : cnt (fun j => !decide ((j : Int) = (k : Int)) && U j) (i + 1) = cu := by simp only [cnt]; rw [HCU.out]; simp [hu]
          clear hir hu
          go_wp2
          go_roundw
          case rel => exact ⟨i + 1, by omega, by go_num, by rw [e1], HMR.out, HOR.out, HBR.out⟩
          case measure => simp [intOf]; omega
        · rw [hu] at x1
          have e1 : cnt (fun j => !decide ((j : Int) = (k : Int)) && U j) (i + 1) = cu + 1 := by simp only [cnt]; rw [HCU.out]; simp [hir, hu]
          clear hir hu
          go_wp2
          go_roundw
          case rel => exact ⟨i + 1, by omega, by go_num, by rw [e1]; go_num, HMR.out, HOR.out, HBR.out⟩
          case measure => simp [intOf]; omega
    · have hlt' : decide ((i : Int) < n) = false := by simp; omega
      obtain rfl : i = n := by omega
      go_wp2
      go_loopw [23, 24] (fun vt vi wr => ∃ j t : Nat, j ≤ i ∧ t = (if j ≤ k then j else j - 1) ∧ vi = .int .i64 j ∧ vt = .int .i64 t ∧ M3 wr N (some x) i I U L gp gc c n' p (dl p k) V (some ⟨p q, 0, none⟩) rounds (p k) (I k) (U k) (L k) ∧ Ob wr w2.heap.size (I k) (U k) (L k) ∧ Below N w wr) (fun _ vi _ => i - (intOf vi).toNat)
      case atStart => exact ⟨0, 0, Nat.zero_le _, by simp, rfl, rfl, HMR.out, HOR.out, HBR.out⟩
      case round =>
        obtain ⟨j, t, hji, ht, rfl, rfl, hm, hob, hbl⟩ := hrel
        have HT : Hid (t = (if j ≤ k then j else j - 1)) := ht
        have htj : t ≤ j := by rw [ht]; split <;> omega
        have HM2 : Hid (M3 wr N (some x) i I U L gp gc c n' p (dl p k) V (some ⟨p q, 0, none⟩) rounds (p k) (I k) (U k) (L k)) := hm
        have HO2 : Hid (Ob wr w2.heap.size (I k) (U k) (L k)) := hob
        have HB2 : Hid (Below N w wr) := hbl
        clear hm hob hbl ht
        by_cases hjn : j < i
        · have hjn' : (j : Int) < i := by omega
          by_cases hjk : (j : Int) = k
          · have hjk' : ((j : Int) == k) = true := by rw [beq_iff_eq]; exact hjk
            have HJK : Hid ((j : Int) = k) := hjk
            clear hjk
            go_wp2
            go_roundw
            case rel =>
              refine ⟨j + 1, t, by omega, ?_, by go_num, rfl, HM2.out, HO2.out, HB2.out⟩
              have h1 := HJK.out
              have h2 := HT.out
              rw [if_pos (by omega)] at h2
              rw [if_neg (by omega)]; omega
            case measure => simp [intOf]; omega
          · have hjk' : ((j : Int) == k) = false := by rw [beq_eq_false_iff_ne]; exact hjk
            have hdl : dl p k t = p j := by
              have h2 := HT.out
              unfold dl
              by_cases h3 : j ≤ k
              · rw [if_pos h3] at h2; rw [if_pos (by omega), h2]
              · rw [if_neg h3] at h2; rw [if_neg (by omega), show t + 1 = j by omega]
            have htn : t < n' := by
              have h2 := HT.out
              have h3 := HN'.out
              by_cases h4 : j ≤ k
              · rw [if_pos h4] at h2; omega
              · rw [if_neg h4] at h2; omega
            have ht1 : t + 1 = (if j + 1 ≤ k then j + 1 else j + 1 - 1) := by
              have h2 := HT.out
              by_cases h4 : j ≤ k
              · rw [if_pos h4] at h2; rw [if_pos (by omega)]; omega
              · rw [if_neg h4] at h2; rw [if_neg (by omega)]; omega
            have HT1 : Hid (t + 1 = (if j + 1 ≤ k then j + 1 else j + 1 - 1)) := ht1
            have htn' : (t : Int) < n' := by omega
            have ca := HM2.out.row.cell htn
            rw [hdl] at ca
            have cp := HM2.out.ptrs.cell hjn
            obtain ⟨x0, x1, x2⟩ := HM2.out.inp.at j hjn
            have hnq := neq_same (p j)
            have hfin := HF.out j hjn hjk
            have hsl := HM2.out.sls j hjn
            have HSL2 : Hid (Sl wr (p j) (I j) (V j) (L j)) := hsl
            clear hsl hdl ht1 hjk
            cases hu : U j
            · rw [hu] at x1
              cases hii : I j
              · have hfin' : V j = false := by rw [hfin, hu]; simp [waits, hii]
                clear hfin
                rw [hii] at x0
                have HSL3 : Hid (Sl wr (p j) false (V j) (L j)) := by have := HSL2.out; rw [hii] at this; exact this
                clear hu hii
                go_wp2
                go_quiet (fail)
                go_wp2_with (first | (go_at_call 14; refine (unchoked_any (p j) false (V j) (L j) _ (HSL3.out.drewN _)).mono ?_; rintro e w7 ⟨rfl, rfl⟩) | (go_at_call 15; refine (interested_any (p j) false (V j) (L j) _ (HSL3.out.drewN _)).mono ?_; rintro e w7 ⟨rfl, rfl⟩))
                go_quiet ((refine (interested_any (p j) false (V j) (L j) _ (HSL3.out.drewN _)).mono ?_; rintro e w7 ⟨rfl, rfl⟩; exact ⟨rfl, _, rfl⟩))
                go_wp2
                go_roundw
                case rel => exact ⟨j + 1, t + 1, by omega, HT1.out, by go_num, by go_num, HM2.out.drewN _, HO2.out.drewN _, below_drewN HB2.out _⟩
                case measure => simp [intOf]; omega
              · have hfin' : V j = decide ((cnt (ahead I U L k j) i : Int) < 4 - (cu : Int)) := by rw [hfin, hu, HCU.out]; simp [waits, hii, hu]
                clear hfin
                rw [hii] at x0
                have HII : Hid (I j = true) := hii
                clear hu hii
                by_cases hcmp : (cnt (ahead I U L k j) i : Int) < 4 - (cu : Int)
                · have hd : decide ((cnt (ahead I U L k j) i : Int) < 4 - (cu : Int)) = true := decide_eq_true hcmp
                  rw [hd] at hfin'
                  clear hcmp
                  go_wp2
                  go_quiet (fail)
                  go_wp2_with (first | (go_at_call 13; refine (ahead_any (some x) i cap0 N j k I U L _ (HM2.out.drewN _).inp (HM2.out.drewN _).size hn hjn).mono ?_; rintro e w8 ⟨rfl, hg8⟩; have HM8 : Hid (M3 w8 N (some x) i I U L gp gc c n' p (dl p k) V (some ⟨p q, 0, none⟩) rounds (p k) (I k) (U k) (L k)) := (HM2.out.drewN _).grown hg8; have HO8 : Hid (Ob w8 w2.heap.size (I k) (U k) (L k)) := (HO2.out.drewN _).grown hg8 (by simp); have HB8 : Hid (Below N w w8) := (below_drewN HB2.out _).trans (below_grown hg8 (HM2.out.drewN _).size (by simp)); have cp8 := HM8.out.ptrs.cell hjn; have y0 := (HM8.out.inp.at j hjn).1; rw [HII.out] at y0; have HSL8 : Hid (Sl w8 (p j) true (V j) (L j)) := (by have h := HM8.out.sls j hjn; rw [HII.out] at h; exact h); clear hg8) | (go_at_call 14; refine (unchoked_any (p j) true (V j) (L j) _ HSL8.out).mono ?_; rintro e w7 ⟨rfl, rfl⟩) | (go_at_call 15; refine (interested_any (p j) true (V j) (L j) _ HSL8.out).mono ?_; rintro e w7 ⟨rfl, rfl⟩))
                  go_quiet ((refine (interested_any (p j) true (V j) (L j) _ (HSL8.out.drewN _)).mono ?_; rintro e w7 ⟨rfl, rfl⟩; exact ⟨rfl, _, rfl⟩))
                  go_wp2
                  go_roundw
                  case rel => exact ⟨j + 1, t + 1, by omega, HT1.out, by go_num, by go_num, HM8.out.drewN _, HO8.out.drewN _, below_drewN HB8.out _⟩
                  case measure => simp [intOf]; omega
                · have hd : decide ((cnt (ahead I U L k j) i : Int) < 4 - (cu : Int)) = false := decide_eq_false hcmp
                  rw [hd] at hfin'
                  clear hcmp
                  go_wp2
                  go_quiet (fail)
                  go_wp2_with (first | (go_at_call 13; refine (ahead_any (some x) i cap0 N j k I U L _ (HM2.out.drewN _).inp (HM2.out.drewN _).size hn hjn).mono ?_; rintro e w8 ⟨rfl, hg8⟩; have HM8 : Hid (M3 w8 N (some x) i I U L gp gc c n' p (dl p k) V (some ⟨p q, 0, none⟩) rounds (p k) (I k) (U k) (L k)) := (HM2.out.drewN _).grown hg8; have HO8 : Hid (Ob w8 w2.heap.size (I k) (U k) (L k)) := (HO2.out.drewN _).grown hg8 (by simp); have HB8 : Hid (Below N w w8) := (below_drewN HB2.out _).trans (below_grown hg8 (HM2.out.drewN _).size (by simp)); have cp8 := HM8.out.ptrs.cell hjn; have y0 := (HM8.out.inp.at j hjn).1; rw [HII.out] at y0; have HSL8 : Hid (Sl w8 (p j) true (V j) (L j)) := (by have h := HM8.out.sls j hjn; rw [HII.out] at h; exact h); clear hg8) | (go_at_call 14; refine (unchoked_any (p j) true (V j) (L j) _ HSL8.out).mono ?_; rintro e w7 ⟨rfl, rfl⟩) | (go_at_call 15; refine (interested_any (p j) true (V j) (L j) _ HSL8.out).mono ?_; rintro e w7 ⟨rfl, rfl⟩))
                  go_quiet ((refine (interested_any (p j) true (V j) (L j) _ (HSL8.out.drewN _)).mono ?_; rintro e w7 ⟨rfl, rfl⟩; exact ⟨rfl, _, rfl⟩))
                  go_wp2
                  go_roundw
                  case rel => exact ⟨j + 1, t + 1, by omega, HT1.out, by go_num, by go_num, HM8.out.drewN _, HO8.out.drewN _, below_drewN HB8.out _⟩
                  case measure => simp [intOf]; omega
            · rw [hu] at x1 hfin
              rw [Bool.true_or] at hfin
              go_wp2
              go_quiet (fail)
              go_wp2_with (first | (go_at_call 14; refine (unchoked_any (p j) (I j) (V j) (L j) _ (HSL2.out.drewN _)).mono ?_; rintro e w7 ⟨rfl, rfl⟩) | (go_at_call 15; refine (interested_any (p j) (I j) (V j) (L j) _ (HSL2.out.drewN _)).mono ?_; rintro e w7 ⟨rfl, rfl⟩))
              go_quiet ((refine (interested_any (p j) (I j) (V j) (L j) _ (HSL2.out.drewN _)).mono ?_; rintro e w7 ⟨rfl, rfl⟩; exact ⟨rfl, _, rfl⟩))
              go_wp2
              go_roundw
              case rel => exact ⟨j + 1, t + 1, by omega, HT1.out, by go_num, by go_num, HM2.out.drewN _, HO2.out.drewN _, below_drewN HB2.out _⟩
              case measure => simp [intOf]; omega
        · have hjn' : decide ((j : Int) < i) = false := by simp; omega
          have o0 := HO2.out.c0
          have o1 := HO2.out.c1
          have hnq := neq_same (p q)
          go_wp2
          go_quiet (first | ((refine (unchoked_any (p k) (I k) (U k) (L k) _ (HM2.out.drewN _).tgt).mono ?_; rintro e w7 ⟨rfl, rfl⟩; exact ⟨rfl, _, rfl⟩)) | ((refine (interested_any (p k) (I k) (U k) (L k) _ (HM2.out.drewN _).tgt).mono ?_; rintro e w7 ⟨rfl, rfl⟩; exact ⟨rfl, _, rfl⟩)))
          go_wp2_with (first | (go_at_call 16; refine (opt_any c _ (some ⟨p q, 0, none⟩) rounds _ (HM2.out.drewN _).ck).mono ?_; rintro e w7 ⟨rfl, rfl⟩) | (go_at_call 17; refine (rounds_any c _ _ rounds _ (HM2.out.drewN _).ck).mono ?_; rintro e w7 ⟨rfl, rfl⟩))
          go_ret
          exact ⟨rfl, below_drewN HB2.out _⟩

set_option maxRecDepth 100000 in
set_option maxHeartbeats 2000000 in
theorem law3_hit_neg (n cap0 N k : Nat) (rounds : Int) (oi ou : Bool) (ol : Int) (I U : Nat → Bool) (L : Nat → Int) (w : World) (x : Addr) (hi : In w N (some x) n I U L) (hxN : x.block < N) (hN : N ≤ w.heap.size) (hn : n ≤ 4096) (h : InvB I U n = true) (hk : k < n) (l0 : -9223372036854775808 ≤ ol) (l1 : ol ≤ 9223372036854775807)
    (opt : Int) (hqn : opt < 0) (n' : Nat) (hn' : n = n' + 1) :
    Calls Try.prog 3 #[.slice (some x) n cap0, .int .i64 k, sv oi ou ol, .int .i64 opt, .int .i64 rounds] w fun e w' => e = .returned (.bool true) ∧ Below N w w' := by
  have h2' : decide ((4096 : Int) < n) = false := by rw [decide_eq_false_iff_not]; omega
  have hkn : (k : Int) < n := by omega
  have hqn' : decide ((0 : Int) ≤ opt) = false := by rw [decide_eq_false_iff_not]; omega
  have hlen : ((n' : Int) != (n : Int) - 1) = false := by simp; omega
  have HN' : Hid (n = n' + 1) := hn'
  have HXN : Hid (x.block < N) := hxN
  have HI : Hid (In w N (some x) n I U L) := hi
  have HV : Hid (InvB I U n = true) := h
  have HG0 : Hid (w.grownBy (w.alloc (.cells #[.bool oi, .bool ou, .int .i64 ol] 24)) none) := grown_alloc _ _ _
  have HOB : Hid (Ob (w.alloc (.cells #[.bool oi, .bool ou, .int .i64 ol] 24)) w.heap.size oi ou ol) := Ob.new _ _ _ _
  clear hi hxN hn'
  go_enter Try.func3, Try.ntmps3
  go_wp2_with (first
    | (go_at_call 5; refine (bytes5_any (some x) n cap0 k opt rounds oi ou ol _ (by unfold maxLen; omega) true (by simp; omega)).mono ?_; rintro e w0 ⟨rfl, hg0⟩; have HG : Hid (w.grownBy w0 none) := grown_trans HG0.out hg0; have HIW : Hid (In w0 N (some x) n I U L) := HI.out.below (below_grown HG.out hN (by simp)); have HOB0 : Hid (Ob w0 w.heap.size oi ou ol) := HOB.out.grown hg0 (by simp); clear hg0)
    | (go_at_call 6; refine (inv_any (some x) n cap0 N I U L _ HIW.out hn).mono ?_; rintro e w1 ⟨rfl, rfl⟩)
    | (go_at_call 7; refine (build_any (some x) n cap0 N I U L _ HIW.out (Nat.le_trans hN HG.out.size) hn).mono ?_; rintro e w1 ⟨gp, p, rfl, hgp, hrp, hsl, hinc, hpg, hg1⟩; have HGP : Hid (w0.heap.size ≤ gp) := hgp; have HRP : Hid (Rw w1 gp n n p) := hrp; have HSL : Hid (Sls w1 n p I U L) := hsl; have HINC : Hid (∀ i j, i < j → j < n → p i < p j) := hinc; have HPG : Hid (∀ i, i < n → gp < p i) := hpg; have HG1 : Hid (w0.grownBy w1 none) := hg1; have hob1 := HOB0.out.grown hg1 (by simp); have o0 := hob1.c0; have o1 := hob1.c1; have o2 := hob1.c2; have HOB1 : Hid (Ob w1 w.heap.size oi ou ol) := hob1; clear hgp hrp hsl hinc hpg hg1 hob1)
    | (go_at_call 8; refine (newSlot_any oi ou ol _ l0 l1).mono ?_; rintro e w2 ⟨b, rfl, hb, hsb, hg2⟩; have HB : Hid (w1.heap.size ≤ b) := hb; have HSB : Hid (Sl w2 b oi ou ol) := hsb; have HG2 : Hid (w1.grownBy w2 none) := hg2; have hrp2 := HRP.out.grown hg2 (by simp); have hck2 := hrp2.cell hk; obtain ⟨x0, x1, x2⟩ := (HIW.out.below (below_grown (grown_trans HG1.out hg2) (Nat.le_trans hN HG.out.size) (by simp))).at k hk; have hob2 := HOB1.out.grown hg2 (by simp); have o0 := hob2.c0; have o1 := hob2.c1; have o2 := hob2.c2; have ngp : gp < w2.heap.size := hrp2.lt; have nx : (x.add (k * 3)).block < w2.heap.size := (by rw [add_block]; exact (Nat.lt_of_lt_of_le HXN.out (Nat.le_trans hN (Nat.le_trans HG.out.size (Nat.le_trans HG1.out.size hg2.size))))); clear hb hsb hg2 hrp2 hob2)
    | (go_at_call 10; refine (clone_any gp n p _ ((HRP.out.grown HG2.out (by simp)).grown (grown_alloc _ _ none) (by simp)) hn).mono ?_; rintro e w3 ⟨gc, rfl, hgc, hrc, hg3⟩; have HGC : Hid (w2.heap.size < gc) := Nat.lt_of_lt_of_le (by simp) hgc; have HRC : Hid (Rw w3 gc n n p) := hrc; have HOB3 : Hid (Ob w3 w2.heap.size (I k) (U k) (L k)) := (Ob.new w2 (I k) (U k) (L k)).grown hg3 (by simp); have HG3 : Hid (w2.grownBy w3 none) := grown_trans (grown_alloc _ _ _) hg3; clear hgc hrc hg3)
    | (go_at_call 9; refine (newChoker_any gc n n none rounds _).mono ?_; rintro e w4 ⟨c, rfl, hc, hck, hg4⟩; have HZ : Hid (Z3 w4 N (some x) n I U L gp gc c p none rounds w2.heap.size (I k) (U k) (L k)) := z3_mk hN HG.out HI.out HGP.out HG1.out HRP.out HSL.out HINC.out HPG.out HG2.out HGC.out HRC.out HOB3.out HG3.out hc hck hg4; have HBL4 : Hid (Below N w w4) := below_grown (grown_trans HG.out (grown_trans HG1.out (grown_trans HG2.out (grown_trans HG3.out hg4)))) hN (by simp); clear hc hck hg4)
    | (go_at_call 11; refine (rem3_hit HZ.out k hk hn HV.out).mono ?_; rintro e w5 ⟨rfl, V, hfin, hm3, hob5, hbl5⟩; have HF : Hid (Final I U L n k V) := hfin; have HM : Hid (M3 w5 N (some x) n I U L gp gc c n' p (dl p k) V none rounds (p k) (I k) (U k) (L k)) := (by have e : n - 1 = n' := (by have := HN'.out; omega); rw [← e]; exact hm3); have HOB5 : Hid (Ob w5 w2.heap.size (I k) (U k) (L k)) := hob5; have HBL5 : Hid (Below N w w5) := HBL4.out.trans hbl5; clear hfin hm3 hob5 hbl5)
    | (go_at_call 12; refine (slots_any c _ _ _ _ HM.out.ck ⟨_, _, _, rfl⟩).mono ?_; rintro e w6 ⟨rfl, rfl⟩))
  have HCL : Hid (∀ m, cnt (fun j => !decide ((j : Int) = (k : Int)) && U j) m ≤ m) := fun m => cnt_le _ m
  clear hck2 x0 x1 x2 o0 o1 o2 ngp nx
  go_loopw [21, 22] (fun vf vi wr => ∃ i : Nat, i ≤ n ∧ vi = .int .i64 i ∧ vf = .int .i64 (4 - (cnt (fun j => !decide ((j : Int) = (k : Int)) && U j) i : Int)) ∧ M3 wr N (some x) n I U L gp gc c n' p (dl p k) V none rounds (p k) (I k) (U k) (L k) ∧ Ob wr w2.heap.size (I k) (U k) (L k) ∧ Below N w wr) (fun _ vi _ => n - (intOf vi).toNat)
  case atStart => exact ⟨0, Nat.zero_le _, rfl, rfl, HM.out, HOB5.out, HBL5.out⟩
  case round =>
    obtain ⟨i, hin, rfl, rfl, hm, hob, hbl⟩ := hrel
    have HMR : Hid (M3 wr N (some x) n I U L gp gc c n' p (dl p k) V none rounds (p k) (I k) (U k) (L k)) := hm
    have HOR : Hid (Ob wr w2.heap.size (I k) (U k) (L k)) := hob
    have HBR : Hid (Below N w wr) := hbl
    clear hm hob hbl
    have hcl := HCL.out i
    obtain ⟨cu, hcu⟩ : ∃ cu, cnt (fun j => !decide ((j : Int) = (k : Int)) && U j) i = cu := ⟨_, rfl⟩
    rw [hcu] at hcl ⊢
    have HCU : Hid (cnt (fun j => !decide ((j : Int) = (k : Int)) && U j) i = cu) := hcu
    clear hcu
    by_cases hlt : i < n
    · have hlt' : (i : Int) < n := by omega
      obtain ⟨x0, x1, x2⟩ := HMR.out.inp.at i hlt
      clear x0 x2
      by_cases hir : (i : Int) = k
      · have hir' : ((i : Int) != k) = false := by simp; omega
        have e1 : cnt (fun j => !decide ((j : Int) = (k : Int)) && U j) (i + 1) = cu := by simp only [cnt]; rw [HCU.out]; simp [hir]
        clear hir
        go_wp2
        go_roundw
        case rel => exact ⟨i + 1, by omega, by go_num, by rw [e1], HMR.out, HOR.out, HBR.out⟩
        case measure => simp [intOf]; omega
      · have hir' : ((i : Int) != k) = true := by rw [bne_iff_ne]; exact hir
        cases hu : U i
        · rw [hu] at x1
          have e1 : cnt (fun j => !decide ((j : Int) = (k : Int)) && U j) (i + 1) = cu := by simp only [cnt]; rw [HCU.out]; simp [hu]
          clear hir hu
          go_wp2
          go_roundw
          case rel => exact ⟨i + 1, by omega, by go_num, by rw [e1], HMR.out, HOR.out, HBR.out⟩
          case measure => simp [intOf]; omega
        · rw [hu] at x1
          have e1 : cnt (fun j => !decide ((j : Int) = (k : Int)) && U j) (i + 1) = cu + 1 := by simp only [cnt]; rw [HCU.out]; simp [hir, hu]
          clear hir hu
          go_wp2
          go_roundw
          case rel => exact ⟨i + 1, by omega, by go_num, by rw [e1]; go_num, HMR.out, HOR.out, HBR.out⟩
          case measure => simp [intOf]; omega
    · have hlt' : decide ((i : Int) < n) = false := by simp; omega
      obtain rfl : i = n := by omega
      go_wp2
      go_loopw [23, 24] (fun vt vi wr => ∃ j t : Nat, j ≤ i ∧ t = (if j ≤ k then j else j - 1) ∧ vi = .int .i64 j ∧ vt = .int .i64 t ∧ M3 wr N (some x) i I U L gp gc c n' p (dl p k) V none rounds (p k) (I k) (U k) (L k) ∧ Ob wr w2.heap.size (I k) (U k) (L k) ∧ Below N w wr) (fun _ vi _ => i - (intOf vi).toNat)
      case atStart => exact ⟨0, 0, Nat.zero_le _, by simp, rfl, rfl, HMR.out, HOR.out, HBR.out⟩
      case round =>
        obtain ⟨j, t, hji, ht, rfl, rfl, hm, hob, hbl⟩ := hrel
        have HT : Hid (t = (if j ≤ k then j else j - 1)) := ht
        have htj : t ≤ j := by rw [ht]; split <;> omega
        have HM2 : Hid (M3 wr N (some x) i I U L gp gc c n' p (dl p k) V none rounds (p k) (I k) (U k) (L k)) := hm
        have HO2 : Hid (Ob wr w2.heap.size (I k) (U k) (L k)) := hob
        have HB2 : Hid (Below N w wr) := hbl
        clear hm hob hbl ht
        by_cases hjn : j < i
        · have hjn' : (j : Int) < i := by omega
          by_cases hjk : (j : Int) = k
          · have hjk' : ((j : Int) == k) = true := by rw [beq_iff_eq]; exact hjk
            have HJK : Hid ((j : Int) = k) := hjk
            clear hjk
            go_wp2
            go_roundw
            case rel =>
              refine ⟨j + 1, t, by omega, ?_, by go_num, rfl, HM2.out, HO2.out, HB2.out⟩
              have h1 := HJK.out
              have h2 := HT.out
              rw [if_pos (by omega)] at h2
              rw [if_neg (by omega)]; omega
            case measure => simp [intOf]; omega
          · have hjk' : ((j : Int) == k) = false := by rw [beq_eq_false_iff_ne]; exact hjk
            have hdl : dl p k t = p j := by
              have h2 := HT.out
              unfold dl
              by_cases h3 : j ≤ k
              · rw [if_pos h3] at h2; rw [if_pos (by omega), h2]
              · rw [if_neg h3] at h2; rw [if_neg (by omega), show t + 1 = j by omega]
            have htn : t < n' := by
              have h2 := HT.out
              have h3 := HN'.out
              by_cases h4 : j ≤ k
              · rw [if_pos h4] at h2; omega
              · rw [if_neg h4] at h2; omega
            have ht1 : t + 1 = (if j + 1 ≤ k then j + 1 else j + 1 - 1) := by
              have h2 := HT.out
              by_cases h4 : j ≤ k
              · rw [if_pos h4] at h2; rw [if_pos (by omega)]; omega
              · rw [if_neg h4] at h2; rw [if_neg (by omega)]; omega
            have HT1 : Hid (t + 1 = (if j + 1 ≤ k then j + 1 else j + 1 - 1)) := ht1
            have htn' : (t : Int) < n' := by omega
            have ca := HM2.out.row.cell htn
            rw [hdl] at ca
            have cp := HM2.out.ptrs.cell hjn
            obtain ⟨x0, x1, x2⟩ := HM2.out.inp.at j hjn
            have hnq := neq_same (p j)
            have hfin := HF.out j hjn hjk
            have hsl := HM2.out.sls j hjn
            have HSL2 : Hid (Sl wr (p j) (I j) (V j) (L j)) := hsl
            clear hsl hdl ht1 hjk
            cases hu : U j
            · rw [hu] at x1
              cases hii : I j
              · have hfin' : V j = false := by rw [hfin, hu]; simp [waits, hii]
                clear hfin
                rw [hii] at x0
                have HSL3 : Hid (Sl wr (p j) false (V j) (L j)) := by have := HSL2.out; rw [hii] at this; exact this
                clear hu hii
                go_wp2
                go_quiet (fail)
                go_wp2_with (first | (go_at_call 14; refine (unchoked_any (p j) false (V j) (L j) _ (HSL3.out.drewN _)).mono ?_; rintro e w7 ⟨rfl, rfl⟩) | (go_at_call 15; refine (interested_any (p j) false (V j) (L j) _ (HSL3.out.drewN _)).mono ?_; rintro e w7 ⟨rfl, rfl⟩))
                go_quiet ((refine (interested_any (p j) false (V j) (L j) _ (HSL3.out.drewN _)).mono ?_; rintro e w7 ⟨rfl, rfl⟩; exact ⟨rfl, _, rfl⟩))
                go_wp2
                go_roundw
                case rel => exact ⟨j + 1, t + 1, by omega, HT1.out, by go_num, by go_num, HM2.out.drewN _, HO2.out.drewN _, below_drewN HB2.out _⟩
                case measure => simp [intOf]; omega
              · have hfin' : V j = decide ((cnt (ahead I U L k j) i : Int) < 4 - (cu : Int)) := by rw [hfin, hu, HCU.out]; simp [waits, hii, hu]
                clear hfin
                rw [hii] at x0
                have HII : Hid (I j = true) := hii
                clear hu hii
                by_cases hcmp : (cnt (ahead I U L k j) i : Int) < 4 - (cu : Int)
                · have hd : decide ((cnt (ahead I U L k j) i : Int) < 4 - (cu : Int)) = true := decide_eq_true hcmp
                  rw [hd] at hfin'
                  clear hcmp
                  go_wp2
                  go_quiet (fail)
                  go_wp2_with (first | (go_at_call 13; refine (ahead_any (some x) i cap0 N j k I U L _ (HM2.out.drewN _).inp (HM2.out.drewN _).size hn hjn).mono ?_; rintro e w8 ⟨rfl, hg8⟩; have HM8 : Hid (M3 w8 N (some x) i I U L gp gc c n' p (dl p k) V none rounds (p k) (I k) (U k) (L k)) := (HM2.out.drewN _).grown hg8; have HO8 : Hid (Ob w8 w2.heap.size (I k) (U k) (L k)) := (HO2.out.drewN _).grown hg8 (by simp); have HB8 : Hid (Below N w w8) := (below_drewN HB2.out _).trans (below_grown hg8 (HM2.out.drewN _).size (by simp)); have cp8 := HM8.out.ptrs.cell hjn; have y0 := (HM8.out.inp.at j hjn).1; rw [HII.out] at y0; have HSL8 : Hid (Sl w8 (p j) true (V j) (L j)) := (by have h := HM8.out.sls j hjn; rw [HII.out] at h; exact h); clear hg8) | (go_at_call 14; refine (unchoked_any (p j) true (V j) (L j) _ HSL8.out).mono ?_; rintro e w7 ⟨rfl, rfl⟩) | (go_at_call 15; refine (interested_any (p j) true (V j) (L j) _ HSL8.out).mono ?_; rintro e w7 ⟨rfl, rfl⟩))
                  go_quiet ((refine (interested_any (p j) true (V j) (L j) _ (HSL8.out.drewN _)).mono ?_; rintro e w7 ⟨rfl, rfl⟩; exact ⟨rfl, _, rfl⟩))
                  go_wp2
                  go_roundw
                  case rel => exact ⟨j + 1, t + 1, by omega, HT1.out, by go_num, by go_num, HM8.out.drewN _, HO8.out.drewN _, below_drewN HB8.out _⟩
                  case measure => simp [intOf]; omega
                · have hd : decide ((cnt (ahead I U L k j) i : Int) < 4 - (cu : Int)) = false := decide_eq_false hcmp
                  rw [hd] at hfin'
                  clear hcmp
                  go_wp2
                  go_quiet (fail)
                  go_wp2_with (first | (go_at_call 13; refine (ahead_any (some x) i cap0 N j k I U L _ (HM2.out.drewN _).inp (HM2.out.drewN _).size hn hjn).mono ?_; rintro e w8 ⟨rfl, hg8⟩; have HM8 : Hid (M3 w8 N (some x) i I U L gp gc c n' p (dl p k) V none rounds (p k) (I k) (U k) (L k)) := (HM2.out.drewN _).grown hg8; have HO8 : Hid (Ob w8 w2.heap.size (I k) (U k) (L k)) := (HO2.out.drewN _).grown hg8 (by simp); have HB8 : Hid (Below N w w8) := (below_drewN HB2.out _).trans (below_grown hg8 (HM2.out.drewN _).size (by simp)); have cp8 := HM8.out.ptrs.cell hjn; have y0 := (HM8.out.inp.at j hjn).1; rw [HII.out] at y0; have HSL8 : Hid (Sl w8 (p j) true (V j) (L j)) := (by have h := HM8.out.sls j hjn; rw [HII.out] at h; exact h); clear hg8) | (go_at_call 14; refine (unchoked_any (p j) true (V j) (L j) _ HSL8.out).mono ?_; rintro e w7 ⟨rfl, rfl⟩) | (go_at_call 15; refine (interested_any (p j) true (V j) (L j) _ HSL8.out).mono ?_; rintro e w7 ⟨rfl, rfl⟩))
                  go_quiet ((refine (interested_any (p j) true (V j) (L j) _ (HSL8.out.drewN _)).mono ?_; rintro e w7 ⟨rfl, rfl⟩; exact ⟨rfl, _, rfl⟩))
                  go_wp2
                  go_roundw
                  case rel => exact ⟨j + 1, t + 1, by omega, HT1.out, by go_num, by go_num, HM8.out.drewN _, HO8.out.drewN _, below_drewN HB8.out _⟩
                  case measure => simp [intOf]; omega
            · rw [hu] at x1 hfin
              rw [Bool.true_or] at hfin
              go_wp2
              go_quiet (fail)
              go_wp2_with (first | (go_at_call 14; refine (unchoked_any (p j) (I j) (V j) (L j) _ (HSL2.out.drewN _)).mono ?_; rintro e w7 ⟨rfl, rfl⟩) | (go_at_call 15; refine (interested_any (p j) (I j) (V j) (L j) _ (HSL2.out.drewN _)).mono ?_; rintro e w7 ⟨rfl, rfl⟩))
              go_quiet ((refine (interested_any (p j) (I j) (V j) (L j) _ (HSL2.out.drewN _)).mono ?_; rintro e w7 ⟨rfl, rfl⟩; exact ⟨rfl, _, rfl⟩))
              go_wp2
              go_roundw
              case rel => exact ⟨j + 1, t + 1, by omega, HT1.out, by go_num, by go_num, HM2.out.drewN _, HO2.out.drewN _, below_drewN HB2.out _⟩
              case measure => simp [intOf]; omega
        · have hjn' : decide ((j : Int) < i) = false := by simp; omega
          have o0 := HO2.out.c0
          have o1 := HO2.out.c1
          have hnq := neq_nil
          go_wp2
          go_quiet (first | ((refine (unchoked_any (p k) (I k) (U k) (L k) _ (HM2.out.drewN _).tgt).mono ?_; rintro e w7 ⟨rfl, rfl⟩; exact ⟨rfl, _, rfl⟩)) | ((refine (interested_any (p k) (I k) (U k) (L k) _ (HM2.out.drewN _).tgt).mono ?_; rintro e w7 ⟨rfl, rfl⟩; exact ⟨rfl, _, rfl⟩)))
          go_wp2_with (first | (go_at_call 16; refine (opt_any c _ none rounds _ (HM2.out.drewN _).ck).mono ?_; rintro e w7 ⟨rfl, rfl⟩) | (go_at_call 17; refine (rounds_any c _ _ rounds _ (HM2.out.drewN _).ck).mono ?_; rintro e w7 ⟨rfl, rfl⟩))
          go_ret
          exact ⟨rfl, below_drewN HB2.out _⟩

set_option maxRecDepth 100000 in
set_option maxHeartbeats 2000000 in
theorem law3_hit_big (n cap0 N k : Nat) (rounds : Int) (oi ou : Bool) (ol : Int) (I U : Nat → Bool) (L : Nat → Int) (w : World) (x : Addr) (hi : In w N (some x) n I U L) (hxN : x.block < N) (hN : N ≤ w.heap.size) (hn : n ≤ 4096) (h : InvB I U n = true) (hk : k < n) (l0 : -9223372036854775808 ≤ ol) (l1 : ol ≤ 9223372036854775807)
    (opt : Int) (hqn : (n : Int) ≤ opt) (n' : Nat) (hn' : n = n' + 1) :
    Calls Try.prog 3 #[.slice (some x) n cap0, .int .i64 k, sv oi ou ol, .int .i64 opt, .int .i64 rounds] w fun e w' => e = .returned (.bool true) ∧ Below N w w' := by
  have h2' : decide ((4096 : Int) < n) = false := by rw [decide_eq_false_iff_not]; omega
  have hkn : (k : Int) < n := by omega
  have hqn' : decide (opt < (n : Int)) = false := by rw [decide_eq_false_iff_not]; omega
  have hqn'' : (0 : Int) ≤ opt := by omega
  have hlen : ((n' : Int) != (n : Int) - 1) = false := by simp; omega
  have HN' : Hid (n = n' + 1) := hn'
  have HXN : Hid (x.block < N) := hxN
  have HI : Hid (In w N (some x) n I U L) := hi
  have HV : Hid (InvB I U n = true) := h
  have HG0 : Hid (w.grownBy (w.alloc (.cells #[.bool oi, .bool ou, .int .i64 ol] 24)) none) := grown_alloc _ _ _
  have HOB : Hid (Ob (w.alloc (.cells #[.bool oi, .bool ou, .int .i64 ol] 24)) w.heap.size oi ou ol) := Ob.new _ _ _ _
  clear hi hxN hn'
  go_enter Try.func3, Try.ntmps3
  go_wp2_with (first
    | (go_at_call 5; refine (bytes5_any (some x) n cap0 k opt rounds oi ou ol _ (by unfold maxLen; omega) true (by simp; omega)).mono ?_; rintro e w0 ⟨rfl, hg0⟩; have HG : Hid (w.grownBy w0 none) := grown_trans HG0.out hg0; have HIW : Hid (In w0 N (some x) n I U L) := HI.out.below (below_grown HG.out hN (by simp)); have HOB0 : Hid (Ob w0 w.heap.size oi ou ol) := HOB.out.grown hg0 (by simp); clear hg0)
    | (go_at_call 6; refine (inv_any (some x) n cap0 N I U L _ HIW.out hn).mono ?_; rintro e w1 ⟨rfl, rfl⟩)
    | (go_at_call 7; refine (build_any (some x) n cap0 N I U L _ HIW.out (Nat.le_trans hN HG.out.size) hn).mono ?_; rintro e w1 ⟨gp, p, rfl, hgp, hrp, hsl, hinc, hpg, hg1⟩; have HGP : Hid (w0.heap.size ≤ gp) := hgp; have HRP : Hid (Rw w1 gp n n p) := hrp; have HSL : Hid (Sls w1 n p I U L) := hsl; have HINC : Hid (∀ i j, i < j → j < n → p i < p j) := hinc; have HPG : Hid (∀ i, i < n → gp < p i) := hpg; have HG1 : Hid (w0.grownBy w1 none) := hg1; have hob1 := HOB0.out.grown hg1 (by simp); have o0 := hob1.c0; have o1 := hob1.c1; have o2 := hob1.c2; have HOB1 : Hid (Ob w1 w.heap.size oi ou ol) := hob1; clear hgp hrp hsl hinc hpg hg1 hob1)
    | (go_at_call 8; refine (newSlot_any oi ou ol _ l0 l1).mono ?_; rintro e w2 ⟨b, rfl, hb, hsb, hg2⟩; have HB : Hid (w1.heap.size ≤ b) := hb; have HSB : Hid (Sl w2 b oi ou ol) := hsb; have HG2 : Hid (w1.grownBy w2 none) := hg2; have hrp2 := HRP.out.grown hg2 (by simp); have hck2 := hrp2.cell hk; obtain ⟨x0, x1, x2⟩ := (HIW.out.below (below_grown (grown_trans HG1.out hg2) (Nat.le_trans hN HG.out.size) (by simp))).at k hk; have hob2 := HOB1.out.grown hg2 (by simp); have o0 := hob2.c0; have o1 := hob2.c1; have o2 := hob2.c2; have ngp : gp < w2.heap.size := hrp2.lt; have nx : (x.add (k * 3)).block < w2.heap.size := (by rw [add_block]; exact (Nat.lt_of_lt_of_le HXN.out (Nat.le_trans hN (Nat.le_trans HG.out.size (Nat.le_trans HG1.out.size hg2.size))))); clear hb hsb hg2 hrp2 hob2)
    | (go_at_call 10; refine (clone_any gp n p _ ((HRP.out.grown HG2.out (by simp)).grown (grown_alloc _ _ none) (by simp)) hn).mono ?_; rintro e w3 ⟨gc, rfl, hgc, hrc, hg3⟩; have HGC : Hid (w2.heap.size < gc) := Nat.lt_of_lt_of_le (by simp) hgc; have HRC : Hid (Rw w3 gc n n p) := hrc; have HOB3 : Hid (Ob w3 w2.heap.size (I k) (U k) (L k)) := (Ob.new w2 (I k) (U k) (L k)).grown hg3 (by simp); have HG3 : Hid (w2.grownBy w3 none) := grown_trans (grown_alloc _ _ _) hg3; clear hgc hrc hg3)
    | (go_at_call 9; refine (newChoker_any gc n n none rounds _).mono ?_; rintro e w4 ⟨c, rfl, hc, hck, hg4⟩; have HZ : Hid (Z3 w4 N (some x) n I U L gp gc c p none rounds w2.heap.size (I k) (U k) (L k)) := z3_mk hN HG.out HI.out HGP.out HG1.out HRP.out HSL.out HINC.out HPG.out HG2.out HGC.out HRC.out HOB3.out HG3.out hc hck hg4; have HBL4 : Hid (Below N w w4) := below_grown (grown_trans HG.out (grown_trans HG1.out (grown_trans HG2.out (grown_trans HG3.out hg4)))) hN (by simp); clear hc hck hg4)
    | (go_at_call 11; refine (rem3_hit HZ.out k hk hn HV.out).mono ?_; rintro e w5 ⟨rfl, V, hfin, hm3, hob5, hbl5⟩; have HF : Hid (Final I U L n k V) := hfin; have HM : Hid (M3 w5 N (some x) n I U L gp gc c n' p (dl p k) V none rounds (p k) (I k) (U k) (L k)) := (by have e : n - 1 = n' := (by have := HN'.out; omega); rw [← e]; exact hm3); have HOB5 : Hid (Ob w5 w2.heap.size (I k) (U k) (L k)) := hob5; have HBL5 : Hid (Below N w w5) := HBL4.out.trans hbl5; clear hfin hm3 hob5 hbl5)
    | (go_at_call 12; refine (slots_any c _ _ _ _ HM.out.ck ⟨_, _, _, rfl⟩).mono ?_; rintro e w6 ⟨rfl, rfl⟩))
  have HCL : Hid (∀ m, cnt (fun j => !decide ((j : Int) = (k : Int)) && U j) m ≤ m) := fun m => cnt_le _ m
  clear hck2 x0 x1 x2 o0 o1 o2 ngp nx
  go_loopw [21, 22] (fun vf vi wr => ∃ i : Nat, i ≤ n ∧ vi = .int .i64 i ∧ vf = .int .i64 (4 - (cnt (fun j => !decide ((j : Int) = (k : Int)) && U j) i : Int)) ∧ M3 wr N (some x) n I U L gp gc c n' p (dl p k) V none rounds (p k) (I k) (U k) (L k) ∧ Ob wr w2.heap.size (I k) (U k) (L k) ∧ Below N w wr) (fun _ vi _ => n - (intOf vi).toNat)
  case atStart => exact ⟨0, Nat.zero_le _, rfl, rfl, HM.out, HOB5.out, HBL5.out⟩
  case round =>
    obtain ⟨i, hin, rfl, rfl, hm, hob, hbl⟩ := hrel
    have HMR : Hid (M3 wr N (some x) n I U L gp gc c n' p (dl p k) V none rounds (p k) (I k) (U k) (L k)) := hm
    have HOR : Hid (Ob wr w2.heap.size (I k) (U k) (L k)) := hob
    have HBR : Hid (Below N w wr) := hbl
    clear hm hob hbl
    have hcl := HCL.out i
    obtain ⟨cu, hcu⟩ : ∃ cu, cnt (fun j => !decide ((j : Int) = (k : Int)) && U j) i = cu := ⟨_, rfl⟩
    rw [hcu] at hcl ⊢
    have HCU : Hid (cnt (fun j => !decide ((j : Int) = (k : Int)) && U j) i = cu) := hcu
    clear hcu
    by_cases hlt : i < n
    · have hlt' : (i : Int) < n := by omega
      obtain ⟨x0, x1, x2⟩ := HMR.out.inp.at i hlt
      clear x0 x2
      by_cases hir : (i : Int) = k
      · have hir' : ((i : Int) != k) = false := by simp; omega
        have e1 : cnt (fun j => !decide ((j : Int) = (k : Int)) && U j) (i + 1) = cu := by simp only [cnt]; rw [HCU.out]; simp [hir]
        clear hir
        go_wp2
        go_roundw
        case rel => exact ⟨i + 1, by omega, by go_num, by rw [e1], HMR.out, HOR.out, HBR.out⟩
        case measure => simp [intOf]; omega
      · have hir' : ((i : Int) != k) = true := by rw [bne_iff_ne]; exact hir
        cases hu : U i
        · rw [hu] at x1
          have e1 : cnt (fun j => !decide ((j : Int) = (k : Int)) && U j) (i + 1) = cu := by simp only [cnt]; rw [HCU.out]; simp [hu]
          clear hir hu
          go_wp2
          go_roundw
          case rel => exact ⟨i + 1, by omega, by go_num, by rw [e1], HMR.out, HOR.out, HBR.out⟩
          case measure => simp [intOf]; omega
        · rw [hu] at x1
          have e1 : cnt (fun j => !decide ((j : Int) = (k : Int)) && U j) (i + 1) = cu + 1 := by simp only [cnt]; rw [HCU.out]; simp [hir, hu]
          clear hir hu
          go_wp2
          go_roundw
          case rel => exact ⟨i + 1, by omega, by go_num, by rw [e1]; go_num, HMR.out, HOR.out, HBR.out⟩
          case measure => simp [intOf]; omega
    · have hlt' : decide ((i : Int) < n) = false := by simp; omega
      obtain rfl : i = n := by omega
      go_wp2
      go_loopw [23, 24] (fun vt vi wr => ∃ j t : Nat, j ≤ i ∧ t = (if j ≤ k then j else j - 1) ∧ vi = .int .i64 j ∧ vt = .int .i64 t ∧ M3 wr N (some x) i I U L gp gc c n' p (dl p k) V none rounds (p k) (I k) (U k) (L k) ∧ Ob wr w2.heap.size (I k) (U k) (L k) ∧ Below N w wr) (fun _ vi _ => i - (intOf vi).toNat)
      case atStart => exact ⟨0, 0, Nat.zero_le _, by simp, rfl, rfl, HMR.out, HOR.out, HBR.out⟩
      case round =>
        obtain ⟨j, t, hji, ht, rfl, rfl, hm, hob, hbl⟩ := hrel
        have HT : Hid (t = (if j ≤ k then j else j - 1)) := ht
        have htj : t ≤ j := by rw [ht]; split <;> omega
        have HM2 : Hid (M3 wr N (some x) i I U L gp gc c n' p (dl p k) V none rounds (p k) (I k) (U k) (L k)) := hm
        have HO2 : Hid (Ob wr w2.heap.size (I k) (U k) (L k)) := hob
        have HB2 : Hid (Below N w wr) := hbl
        clear hm hob hbl ht
        by_cases hjn : j < i
        · have hjn' : (j : Int) < i := by omega
          by_cases hjk : (j : Int) = k
          · have hjk' : ((j : Int) == k) = true := by rw [beq_iff_eq]; exact hjk
            have HJK : Hid ((j : Int) = k) := hjk
            clear hjk
            go_wp2
            go_roundw
            case rel =>
              refine ⟨j + 1, t, by omega, ?_, by go_num, rfl, HM2.out, HO2.out, HB2.out⟩
              have h1 := HJK.out
              have h2 := HT.out
              rw [if_pos (by omega)] at h2
              rw [if_neg (by omega)]; omega
            case measure => simp [intOf]; omega
          · have hjk' : ((j : Int) == k) = false := by rw [beq_eq_false_iff_ne]; exact hjk
            have hdl : dl p k t = p j := by
              have h2 := HT.out
              unfold dl
              by_cases h3 : j ≤ k
              · rw [if_pos h3] at h2; rw [if_pos (by omega), h2]
              · rw [if_neg h3] at h2; rw [if_neg (by omega), show t + 1 = j by omega]
            have htn : t < n' := by
              have h2 := HT.out
              have h3 := HN'.out
              by_cases h4 : j ≤ k
              · rw [if_pos h4] at h2; omega
              · rw [if_neg h4] at h2; omega
            have ht1 : t + 1 = (if j + 1 ≤ k then j + 1 else j + 1 - 1) := by
              have h2 := HT.out
              by_cases h4 : j ≤ k
              · rw [if_pos h4] at h2; rw [if_pos (by omega)]; omega
              · rw [if_neg h4] at h2; rw [if_neg (by omega)]; omega
            have HT1 : Hid (t + 1 = (if j + 1 ≤ k then j + 1 else j + 1 - 1)) := ht1
            have htn' : (t : Int) < n' := by omega
            have ca := HM2.out.row.cell htn
            rw [hdl] at ca
            have cp := HM2.out.ptrs.cell hjn
            obtain ⟨x0, x1, x2⟩ := HM2.out.inp.at j hjn
            have hnq := neq_same (p j)
            have hfin := HF.out j hjn hjk
            have hsl := HM2.out.sls j hjn
            have HSL2 : Hid (Sl wr (p j) (I j) (V j) (L j)) := hsl
            clear hsl hdl ht1 hjk
            cases hu : U j
            · rw [hu] at x1
              cases hii : I j
              · have hfin' : V j = false := by rw [hfin, hu]; simp [waits, hii]
                clear hfin
                rw [hii] at x0
                have HSL3 : Hid (Sl wr (p j) false (V j) (L j)) := by have := HSL2.out; rw [hii] at this; exact this
                clear hu hii
                go_wp2
                go_quiet (fail)
                go_wp2_with (first | (go_at_call 14; refine (unchoked_any (p j) false (V j) (L j) _ (HSL3.out.drewN _)).mono ?_; rintro e w7 ⟨rfl, rfl⟩) | (go_at_call 15; refine (interested_any (p j) false (V j) (L j) _ (HSL3.out.drewN _)).mono ?_; rintro e w7 ⟨rfl, rfl⟩))
                go_quiet ((refine (interested_any (p j) false (V j) (L j) _ (HSL3.out.drewN _)).mono ?_; rintro e w7 ⟨rfl, rfl⟩; exact ⟨rfl, _, rfl⟩))
                go_wp2
                go_roundw
                case rel => exact ⟨j + 1, t + 1, by omega, HT1.out, by go_num, by go_num, HM2.out.drewN _, HO2.out.drewN _, below_drewN HB2.out _⟩
                case measure => simp [intOf]; omega
              · have hfin' : V j = decide ((cnt (ahead I U L k j) i : Int) < 4 - (cu : Int)) := by rw [hfin, hu, HCU.out]; simp [waits, hii, hu]
                clear hfin
                rw [hii] at x0
                have HII : Hid (I j = true) := hii
                clear hu hii
                by_cases hcmp : (cnt (ahead I U L k j) i : Int) < 4 - (cu : Int)
                · have hd : decide ((cnt (ahead I U L k j) i : Int) < 4 - (cu : Int)) = true := decide_eq_true hcmp
                  rw [hd] at hfin'
                  clear hcmp
                  go_wp2
                  go_quiet (fail)
                  go_wp2_with (first | (go_at_call 13; refine (ahead_any (some x) i cap0 N j k I U L _ (HM2.out.drewN _).inp (HM2.out.drewN _).size hn hjn).mono ?_; rintro e w8 ⟨rfl, hg8⟩; have HM8 : Hid (M3 w8 N (some x) i I U L gp gc c n' p (dl p k) V none rounds (p k) (I k) (U k) (L k)) := (HM2.out.drewN _).grown hg8; have HO8 : Hid (Ob w8 w2.heap.size (I k) (U k) (L k)) := (HO2.out.drewN _).grown hg8 (by simp); have HB8 : Hid (Below N w w8) := (below_drewN HB2.out _).trans (below_grown hg8 (HM2.out.drewN _).size (by simp)); have cp8 := HM8.out.ptrs.cell hjn; have y0 := (HM8.out.inp.at j hjn).1; rw [HII.out] at y0; have HSL8 : Hid (Sl w8 (p j) true (V j) (L j)) := (by have h := HM8.out.sls j hjn; rw [HII.out] at h; exact h); clear hg8) | (go_at_call 14; refine (unchoked_any (p j) true (V j) (L j) _ HSL8.out).mono ?_; rintro e w7 ⟨rfl, rfl⟩) | (go_at_call 15; refine (interested_any (p j) true (V j) (L j) _ HSL8.out).mono ?_; rintro e w7 ⟨rfl, rfl⟩))
                  go_quiet ((refine (interested_any (p j) true (V j) (L j) _ (HSL8.out.drewN _)).mono ?_; rintro e w7 ⟨rfl, rfl⟩; exact ⟨rfl, _, rfl⟩))
                  go_wp2
                  go_roundw
                  case rel => exact ⟨j + 1, t + 1, by omega, HT1.out, by go_num, by go_num, HM8.out.drewN _, HO8.out.drewN _, below_drewN HB8.out _⟩
                  case measure => simp [intOf]; omega
                · have hd : decide ((cnt (ahead I U L k j) i : Int) < 4 - (cu : Int)) = false := decide_eq_false hcmp
                  rw [hd] at hfin'
                  clear hcmp
                  go_wp2
                  go_quiet (fail)
                  go_wp2_with (first | (go_at_call 13; refine (ahead_any (some x) i cap0 N j k I U L _ (HM2.out.drewN _).inp (HM2.out.drewN _).size hn hjn).mono ?_; rintro e w8 ⟨rfl, hg8⟩; have HM8 : Hid (M3 w8 N (some x) i I U L gp gc c n' p (dl p k) V none rounds (p k) (I k) (U k) (L k)) := (HM2.out.drewN _).grown hg8; have HO8 : Hid (Ob w8 w2.heap.size (I k) (U k) (L k)) := (HO2.out.drewN _).grown hg8 (by simp); have HB8 : Hid (Below N w w8) := (below_drewN HB2.out _).trans (below_grown hg8 (HM2.out.drewN _).size (by simp)); have cp8 := HM8.out.ptrs.cell hjn; have y0 := (HM8.out.inp.at j hjn).1; rw [HII.out] at y0; have HSL8 : Hid (Sl w8 (p j) true (V j) (L j)) := (by have h := HM8.out.sls j hjn; rw [HII.out] at h; exact h); clear hg8) | (go_at_call 14; refine (unchoked_any (p j) true (V j) (L j) _ HSL8.out).mono ?_; rintro e w7 ⟨rfl, rfl⟩) | (go_at_call 15; refine (interested_any (p j) true (V j) (L j) _ HSL8.out).mono ?_; rintro e w7 ⟨rfl, rfl⟩))
                  go_quiet ((refine (interested_any (p j) true (V j) (L j) _ (HSL8.out.drewN _)).mono ?_; rintro e w7 ⟨rfl, rfl⟩; exact ⟨rfl, _, rfl⟩))
                  go_wp2
                  go_roundw
                  case rel => exact ⟨j + 1, t + 1, by omega, HT1.out, by go_num, by go_num, HM8.out.drewN _, HO8.out.drewN _, below_drewN HB8.out _⟩
                  case measure => simp [intOf]; omega
            · rw [hu] at x1 hfin
              rw [Bool.true_or] at hfin
              go_wp2
              go_quiet (fail)
              go_wp2_with (first | (go_at_call 14; refine (unchoked_any (p j) (I j) (V j) (L j) _ (HSL2.out.drewN _)).mono ?_; rintro e w7 ⟨rfl, rfl⟩) | (go_at_call 15; refine (interested_any (p j) (I j) (V j) (L j) _ (HSL2.out.drewN _)).mono ?_; rintro e w7 ⟨rfl, rfl⟩))
              go_quiet ((refine (interested_any (p j) (I j) (V j) (L j) _ (HSL2.out.drewN _)).mono ?_; rintro e w7 ⟨rfl, rfl⟩; exact ⟨rfl, _, rfl⟩))
              go_wp2
              go_roundw
              case rel => exact ⟨j + 1, t + 1, by omega, HT1.out, by go_num, by go_num, HM2.out.drewN _, HO2.out.drewN _, below_drewN HB2.out _⟩
              case measure => simp [intOf]; omega
        · have hjn' : decide ((j : Int) < i) = false := by simp; omega
          have o0 := HO2.out.c0
          have o1 := HO2.out.c1
          have hnq := neq_nil
          go_wp2
          go_quiet (first | ((refine (unchoked_any (p k) (I k) (U k) (L k) _ (HM2.out.drewN _).tgt).mono ?_; rintro e w7 ⟨rfl, rfl⟩; exact ⟨rfl, _, rfl⟩)) | ((refine (interested_any (p k) (I k) (U k) (L k) _ (HM2.out.drewN _).tgt).mono ?_; rintro e w7 ⟨rfl, rfl⟩; exact ⟨rfl, _, rfl⟩)))
          go_wp2_with (first | (go_at_call 16; refine (opt_any c _ none rounds _ (HM2.out.drewN _).ck).mono ?_; rintro e w7 ⟨rfl, rfl⟩) | (go_at_call 17; refine (rounds_any c _ _ rounds _ (HM2.out.drewN _).ck).mono ?_; rintro e w7 ⟨rfl, rfl⟩))
          go_ret
          exact ⟨rfl, below_drewN HB2.out _⟩
end Go.Proofs.Qxb6616745a
