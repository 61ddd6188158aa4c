import Derived.Test.Qxb6616745aV6
namespace Go.Proofs.Qxb6616745a
open Go.RowKit

set_option maxRecDepth 100000 in
set_option maxHeartbeats 2000000 in
theorem law4_hit_hit (n cap0 N : Nat) (oi ou : Bool) (ol : Int) (I U : Nat → Bool) (L : Nat → Int) (w : World) (a0 : Option Addr) (hi : In w N a0 n I U L) (hN : N ≤ w.heap.size) (hn : n ≤ 4096) (h : InvB I U n = true) (l0 : -9223372036854775808 ≤ ol) (l1 : ol ≤ 9223372036854775807)
    (a : Nat) (ha : a < n) (b : Nat) (hb : b < n) :
    Calls Try.prog 4 #[.slice a0 n cap0, .int .i64 a, .int .i64 b, sv oi ou ol] w fun e w' => e = .returned (.bool true) ∧ Below N w w' := by
  have h2' : decide ((4096 : Int) < n) = false := by rw [decide_eq_false_iff_not]; omega
  have ha' : (a : Int) < n := by omega
  have hb' : (b : Int) < n := by omega
  have HI : Hid (In w N a0 n I U L) := hi
  have HV : Hid (InvB I U n = true) := h
  have HA : Hid _ := ha
  have HB : Hid _ := hb
  have HG0 : Hid (w.grownBy (w.alloc (.cells #[.bool oi, .bool ou, .int .i64 ol] 24)) none) := grown_alloc _ _ _
  have HOB : Hid (Ob (w.alloc (.cells #[.bool oi, .bool ou, .int .i64 ol] 24)) w.heap.size oi ou ol) := Ob.new _ _ _ _
  clear hi ha hb
  go_enter Try.func4, Try.ntmps4
  go_wp2_with (first
    | (go_at_call 18; refine (bytes18_any a0 n cap0 a b oi ou ol _ (by unfold maxLen; omega) true (by simp; omega)).mono ?_; rintro e w0 ⟨rfl, hg0⟩; have HG : Hid (w.grownBy w0 none) := grown_trans HG0.out hg0; have HIW : Hid (In w0 N a0 n I U L) := HI.out.below (below_grown HG.out hN (by simp)); have HOB0 : Hid (Ob w0 w.heap.size oi ou ol) := HOB.out.grown hg0 (by simp); clear hg0)
    | (go_at_call 6; refine (inv_any a0 n cap0 N I U L _ HIW.out hn).mono ?_; rintro e wz ⟨rfl, rfl⟩)
    | (go_at_call 7; have kk := HSB1.out; clear kk; refine (build_any a0 n cap0 N I U L _ HIW2.out (Nat.le_trans hN HGW2.out.size) hn).mono ?_; rintro e w3 ⟨gp2, p2, rfl, hgp, hrp, hsl, hinc, hpg, hg3⟩; have HGP2 : Hid (w2.heap.size ≤ gp2) := hgp; have HRP2 : Hid (Rw w3 gp2 n n p2) := hrp; have HSL2 : Hid (Sls w3 n p2 I U L) := hsl; have HINC2 : Hid (∀ i j, i < j → j < n → p2 i < p2 j) := hinc; have HPG2 : Hid (∀ i, i < n → gp2 < p2 i) := hpg; have HG3 : Hid (w2.grownBy w3 none) := hg3; have hob3 := HOB2.out.grown hg3 (by simp); have o0 := hob3.c0; have o1 := hob3.c1; have o2 := hob3.c2; clear hgp hrp hsl hinc hpg hg3 hob3)
    | (go_at_call 7; refine (build_any a0 n cap0 N I U L _ HIW.out (Nat.le_trans hN HG.out.size) hn).mono ?_; rintro e w1 ⟨gp1, p1, rfl, hgp, hrp, hsl, hinc, hpg, hg1⟩; have HGP1 : Hid (w0.heap.size ≤ gp1) := hgp; have HRP1 : Hid (Rw w1 gp1 n n p1) := hrp; have HSL1 : Hid (Sls w1 n p1 I U L) := hsl; have HINC1 : Hid (∀ i j, i < j → j < n → p1 i < p1 j) := hinc; have HPG1 : Hid (∀ i, i < n → gp1 < p1 i) := hpg; have HG1 : Hid (w0.grownBy w1 none) := hg1; have hob1 := HOB0.out.grown hg1 (by simp); have o0 := hob1.c0; have o1 := hob1.c1; have o2 := hob1.c2; have HOB1 : Hid (Ob w1 w.heap.size oi ou ol) := hob1; clear hgp hrp hsl hinc hpg hg1 hob1)
    | (go_at_call 8; have kk := HRP2.out; clear kk; refine (newSlot_any oi ou ol _ l0 l1).mono ?_; rintro e w4 ⟨b2, rfl, hb, hsb, hg4⟩; have HB2 : Hid (w3.heap.size ≤ b2) := hb; have HSB2 : Hid (Sl w4 b2 oi ou ol) := hsb; have HG4 : Hid (w3.grownBy w4 none) := hg4; clear hb hsb hg4)
    | (go_at_call 8; refine (newSlot_any oi ou ol _ l0 l1).mono ?_; rintro e w2 ⟨b1, rfl, hb, hsb, hg2⟩; have HB1 : Hid (w1.heap.size ≤ b1) := hb; have HSB1 : Hid (Sl w2 b1 oi ou ol) := hsb; have HG2 : Hid (w1.grownBy w2 none) := hg2; have HGW2 : Hid (w.grownBy w2 none) := grown_trans HG.out (grown_trans HG1.out hg2); have HIW2 : Hid (In w2 N a0 n I U L) := HI.out.below (below_grown HGW2.out hN (by simp)); have HOB2 : Hid (Ob w2 w.heap.size oi ou ol) := HOB1.out.grown hg2 (by simp); clear hb hsb hg2)
    | (go_at_call 10; have kk := HCK1.out; clear kk; refine (clone_any gp2 n p2 _ (HRP2.out.grown (grown_trans HG4.out (grown_trans HG5.out HG6.out)) (by simp)) hn).mono ?_; rintro e w7 ⟨gc2, rfl, hgc, hrc, hg7⟩; have HGC2 : Hid (w6.heap.size ≤ gc2) := hgc; have HRC2 : Hid (Rw w7 gc2 n n p2) := hrc; have HG7 : Hid (w6.grownBy w7 none) := hg7; clear hgc hrc hg7)
    | (go_at_call 10; refine (clone_any gp1 n p1 _ (HRP1.out.grown (grown_trans HG2.out (grown_trans HG3.out HG4.out)) (by simp)) hn).mono ?_; rintro e w5 ⟨gc1, rfl, hgc, hrc, hg5⟩; have HGC1 : Hid (w4.heap.size ≤ gc1) := hgc; have HRC1 : Hid (Rw w5 gc1 n n p1) := hrc; have HG5 : Hid (w4.grownBy w5 none) := hg5; clear hgc hrc hg5)
    | (go_at_call 9; have kk := HRC2.out; clear kk; refine (newChoker_any gc2 n n none 0 _).mono ?_; rintro e w8 ⟨c2, rfl, hc, hck, hg8⟩; have HZ : Hid (Z4 w8 N a0 n I U L gp1 gc1 c1 p1 b1 (fun _ => true) gp2 gc2 c2 p2 b2 (fun _ => true)) := z4_mk hN HG.out HI.out HV.out HGP1.out HG1.out HRP1.out HSL1.out HINC1.out HPG1.out HB1.out HSB1.out HG2.out HGP2.out HG3.out HRP2.out HSL2.out HINC2.out HPG2.out HB2.out HSB2.out HG4.out HGC1.out HRC1.out HG5.out HC1.out HCK1.out HG6.out HGC2.out HRC2.out HG7.out hc hck hg8; have HBL8 : Hid (Below N w w8) := below_grown (grown_trans HGW2.out (grown_trans HG3.out (grown_trans HG4.out (grown_trans HG5.out (grown_trans HG6.out (grown_trans HG7.out hg8)))))) hN (by simp); clear hc hck hg8 HGP1 HG1 HRP1 HSL1 HINC1 HPG1 HG2 HGP2 HG3 HSL2 HINC2 HPG2 HB2 HSB2 HG4 HGC1 HRC1 HG5 HC1 HG6 HGC2 HG7)
    | (go_at_call 9; refine (newChoker_any gc1 n n none 0 _).mono ?_; rintro e w6 ⟨c1, rfl, hc, hck, hg6⟩; have HC1 : Hid (w5.heap.size ≤ c1) := hc; have HCK1 : Hid (Ck w6 c1 (.slice (some ⟨gc1, 0, none⟩) n n) (.pointer none) 0) := hck; have HG6 : Hid (w5.grownBy w6 none) := hg6; clear hc hck hg6)
    | (go_at_call 19; refine (pick_in gp2 n n a p2 b2 _ HZ3.out.ptr2 HA.out).mono ?_; rintro e wz ⟨rfl, rfl⟩)
    | (go_at_call 19; refine (pick_in gp2 n n b p2 b2 _ HZ2.out.ptr2 HB.out).mono ?_; rintro e wz ⟨rfl, rfl⟩)
    | (go_at_call 19; refine (pick_in gp1 n n b p1 b1 _ HZ1.out.ptr1 HB.out).mono ?_; rintro e wz ⟨rfl, rfl⟩)
    | (go_at_call 19; refine (pick_in gp1 n n a p1 b1 _ HZ.out.ptr1 HA.out).mono ?_; rintro e wz ⟨rfl, rfl⟩)
    | (go_at_call 11; refine (z4_hit2 HZ3.out hn a HA.out).mono ?_; rintro e w12 ⟨rfl, hz, hbl⟩; obtain ⟨m, q1, q2, V, hm4, hf4⟩ := z4_end (A := AB (a : Int) (b : Int)) hz (ab_hh a b) ((ab_hh b a).trans (ab_swap b a)); have HM : Hid (M4 w12 N a0 n I U L gp1 gc1 c1 p1 q1 gp2 gc2 c2 p2 q2 m (AB (a : Int) (b : Int)) V) := hm4; have HF : Hid (F4 n I U (AB (a : Int) (b : Int)) V m p1 q1 p2 q2) := hf4; have HBL : Hid (Below N w w12) := HBL11.out.trans hbl; clear hz hbl hm4 hf4)
    | (go_at_call 11; refine (z4_hit2 HZ2.out hn b HB.out).mono ?_; rintro e w11 ⟨rfl, hz, hbl⟩; have HZ3 : Hid _ := hz; have HBL11 : Hid (Below N w w11) := HBL10.out.trans hbl; clear hz hbl)
    | (go_at_call 11; refine (z4_hit1 HZ1.out hn b HB.out).mono ?_; rintro e w10 ⟨rfl, hz, hbl⟩; have HZ2 : Hid _ := hz; have HBL10 : Hid (Below N w w10) := HBL9.out.trans hbl; clear hz hbl)
    | (go_at_call 11; refine (z4_hit1 HZ.out hn a HA.out).mono ?_; rintro e w9 ⟨rfl, hz, hbl⟩; have HZ1 : Hid _ := hz; have HBL9 : Hid (Below N w w9) := HBL8.out.trans hbl; clear hz hbl)
    | (go_at_call 12; have kk := HS1.out; clear kk; refine (slots_any c2 _ _ _ _ HM.out.ck2 ⟨_, _, _, rfl⟩).mono ?_; rintro e wz ⟨rfl, rfl⟩)
    | (go_at_call 12; refine (slots_any c1 _ _ _ _ HM.out.ck1 ⟨_, _, _, rfl⟩).mono ?_; rintro e wz ⟨rfl, rfl⟩; have HS1 : Hid True := trivial))
  clear HZ HZ1 HZ2 HZ3 HBL8 HBL9 HBL10 HBL11 HCK1 HRC2 HSB1 HRP2 HIW HIW2 HGW2 HOB0 HOB1 HOB2 HOB HG0 HI HG o0 o1 o2
  have HCL : Hid (∀ i, cnt (AB (a : Int) (b : Int)) i ≤ i) := fun i => cnt_le _ i
  go_loopw [20, 21] (fun vm vi wr => ∃ i : Nat, i ≤ n ∧ vi = .int .i64 i ∧ vm = .int .i64 (cnt (AB (a : Int) (b : Int)) i : Nat) ∧ wr = w12) (fun _ vi _ => n - (intOf vi).toNat)
  case atStart => exact ⟨0, Nat.zero_le _, rfl, rfl, rfl⟩
  case round =>
    obtain ⟨i, hin, rfl, rfl, rfl⟩ := hrel
    have hcl := HCL.out i
    obtain ⟨cu, hcu⟩ : ∃ cu, cnt (AB (a : Int) (b : Int)) i = cu := ⟨_, rfl⟩
    rw [hcu] at hcl ⊢
    have HCU : Hid (cnt (AB (a : Int) (b : Int)) i = cu) := hcu
    clear hcu
    by_cases hlt : i < n
    · have hlt' : (i : Int) < n := by omega
      by_cases hia : (i : Int) = (a : Int)
      · have hia' : ((i : Int) != (a : Int)) = false := by simp; omega
        have e1 : cnt (AB (a : Int) (b : Int)) (i + 1) = cu := by simp only [cnt]; rw [HCU.out]; simp [AB, hia]
        clear hia
        go_wp2
        go_roundw
        case rel => exact ⟨i + 1, by omega, by go_num, by rw [e1], trivial⟩
        case measure => simp [intOf]; omega
      · have hia' : ((i : Int) != (a : Int)) = true := by rw [bne_iff_ne]; exact hia
        by_cases hib : (i : Int) = (b : Int)
        · have hib' : ((i : Int) != (b : Int)) = false := by simp; omega
          have e1 : cnt (AB (a : Int) (b : Int)) (i + 1) = cu := by simp only [cnt]; rw [HCU.out]; simp [AB, hib]
          clear hia hib
          go_wp2
          go_roundw
          case rel => exact ⟨i + 1, by omega, by go_num, by rw [e1], trivial⟩
          case measure => simp [intOf]; omega
        · have hib' : ((i : Int) != (b : Int)) = true := by rw [bne_iff_ne]; exact hib
          have e1 : cnt (AB (a : Int) (b : Int)) (i + 1) = cu + 1 := by simp only [cnt]; rw [HCU.out]; simp [AB, hia, hib]
          clear hia hib
          go_wp2
          go_roundw
          case rel => exact ⟨i + 1, by omega, by go_num, by rw [e1]; go_num, trivial⟩
          case measure => simp [intOf]; omega
    · have hlt' : decide ((i : Int) < n) = false := by simp; omega
      obtain rfl : i = n := by omega
      have hmc : m = cu := by rw [HF.out.len, HCU.out]
      have hmc' : ((m : Int) != (cu : Int)) = false := by simp; omega
      have HMI : Hid (m ≤ i) := by show m ≤ i; omega
      have HC4 : Hid (∀ j, cnt (AB (a : Int) (b : Int)) j ≤ j ∧ cnt (fun j => AB (a : Int) (b : Int) j && U j) j ≤ j ∧ cnt (fun j => AB (a : Int) (b : Int) j && waits I U j) j ≤ j ∧ cnt (fun j => AB (a : Int) (b : Int) j && V j) j ≤ j) := fun j => ⟨cnt_le _ j, cnt_le _ j, cnt_le _ j, cnt_le _ j⟩
      clear hmc
      go_wp2
      go_loopw [22, 23, 24, 25, 26] (fun vh vw vu vt vi wr => ∃ j : Nat, j ≤ i ∧ vi = .int .i64 j ∧ vt = .int .i64 (cnt (AB (a : Int) (b : Int)) j : Nat) ∧ vh = .int .i64 (cnt (fun j => AB (a : Int) (b : Int) j && U j) j : Nat) ∧ vw = .int .i64 (cnt (fun j => AB (a : Int) (b : Int) j && waits I U j) j : Nat) ∧ vu = .int .i64 (cnt (fun j => AB (a : Int) (b : Int) j && V j) j : Nat) ∧ M4 wr N a0 i I U L gp1 gc1 c1 p1 q1 gp2 gc2 c2 p2 q2 m (AB (a : Int) (b : Int)) V ∧ Below N w wr) (fun _ _ _ _ vi _ => i - (intOf vi).toNat)
      case atStart => exact ⟨0, Nat.zero_le _, rfl, rfl, rfl, rfl, rfl, HM.out, HBL.out⟩
      case round =>
        obtain ⟨j, hji, rfl, rfl, rfl, rfl, rfl, hm, hbl⟩ := hrel
        have HM2 : Hid (M4 wr N a0 i I U L gp1 gc1 c1 p1 q1 gp2 gc2 c2 p2 q2 m (AB (a : Int) (b : Int)) V) := hm
        have HB2 : Hid (Below N w wr) := hbl
        clear hm hbl
        obtain ⟨bt, bh, bw, bv⟩ := HC4.out j
        obtain ⟨ct, hct⟩ : ∃ c, cnt (AB (a : Int) (b : Int)) j = c := ⟨_, rfl⟩
        obtain ⟨ch, hch⟩ : ∃ c, cnt (fun j => AB (a : Int) (b : Int) j && U j) j = c := ⟨_, rfl⟩
        obtain ⟨cw, hcw⟩ : ∃ c, cnt (fun j => AB (a : Int) (b : Int) j && waits I U j) j = c := ⟨_, rfl⟩
        obtain ⟨cv, hcv⟩ : ∃ c, cnt (fun j => AB (a : Int) (b : Int) j && V j) j = c := ⟨_, rfl⟩
        rw [hct] at bt ⊢
        rw [hch] at bh ⊢
        rw [hcw] at bw ⊢
        rw [hcv] at bv ⊢
        have HCT : Hid (cnt (AB (a : Int) (b : Int)) j = ct) := hct
        have HCH : Hid (cnt (fun j => AB (a : Int) (b : Int) j && U j) j = ch) := hch
        have HCW : Hid (cnt (fun j => AB (a : Int) (b : Int) j && waits I U j) j = cw) := hcw
        have HCV : Hid (cnt (fun j => AB (a : Int) (b : Int) j && V j) j = cv) := hcv
        clear hct hch hcw hcv
        by_cases hjn : j < i
        · have hjn' : (j : Int) < i := by omega
          by_cases hja : (j : Int) = (a : Int)
          · have hja' : ((j : Int) == (a : Int)) = true := by rw [beq_iff_eq]; exact hja
            have hA : AB (a : Int) (b : Int) j = false := by simp [AB, hja]
            have et : cnt (AB (a : Int) (b : Int)) (j + 1) = ct := by simp only [cnt]; rw [HCT.out]; simp [hA]
            have eh : cnt (fun j => AB (a : Int) (b : Int) j && U j) (j + 1) = ch := by simp only [cnt]; rw [HCH.out]; simp [hA]
            have ew : cnt (fun j => AB (a : Int) (b : Int) j && waits I U j) (j + 1) = cw := by simp only [cnt]; rw [HCW.out]; simp [hA]
            have ev : cnt (fun j => AB (a : Int) (b : Int) j && V j) (j + 1) = cv := by simp only [cnt]; rw [HCV.out]; simp [hA]
            clear hja hA
            go_wp2
            go_roundw
            case rel => exact ⟨j + 1, by omega, by go_num, by rw [et], by rw [eh], by rw [ew], by rw [ev], HM2.out, HB2.out⟩
            case measure => simp [intOf]; omega
          · have hja' : ((j : Int) == (a : Int)) = false := by rw [beq_eq_false_iff_ne]; exact hja
            by_cases hjb : (j : Int) = (b : Int)
            · have hjb' : ((j : Int) == (b : Int)) = true := by rw [beq_iff_eq]; exact hjb
              have hA : AB (a : Int) (b : Int) j = false := by simp [AB, hjb]
              have et : cnt (AB (a : Int) (b : Int)) (j + 1) = ct := by simp only [cnt]; rw [HCT.out]; simp [hA]
              have eh : cnt (fun j => AB (a : Int) (b : Int) j && U j) (j + 1) = ch := by simp only [cnt]; rw [HCH.out]; simp [hA]
              have ew : cnt (fun j => AB (a : Int) (b : Int) j && waits I U j) (j + 1) = cw := by simp only [cnt]; rw [HCW.out]; simp [hA]
              have ev : cnt (fun j => AB (a : Int) (b : Int) j && V j) (j + 1) = cv := by simp only [cnt]; rw [HCV.out]; simp [hA]
              clear hja hjb hA
              go_wp2
              go_roundw
              case rel => exact ⟨j + 1, by omega, by go_num, by rw [et], by rw [eh], by rw [ew], by rw [ev], HM2.out, HB2.out⟩
              case measure => simp [intOf]; omega
            · have hjb' : ((j : Int) == (b : Int)) = false := by rw [beq_eq_false_iff_ne]; exact hjb
              have hA : AB (a : Int) (b : Int) j = true := by simp [AB, hja, hjb]
              clear hja hjb
              have htm : ct < m := by rw [HF.out.len, ← HCT.out]; exact cnt_lt hjn hA
              have htm' : (ct : Int) < m := by omega
              have ca1 := HM2.out.row1.cell htm
              rw [show q1 ct = p1 j by rw [← HCT.out]; exact HF.out.at1 j hjn hA] at ca1
              have ca2 := HM2.out.row2.cell htm
              rw [show q2 ct = p2 j by rw [← HCT.out]; exact HF.out.at2 j hjn hA] at ca2
              have cp1 := HM2.out.ptr1.cell hjn
              have cp2 := HM2.out.ptr2.cell hjn
              have hnq1 := neq_same (p1 j)
              have hnq2 := neq_same (p2 j)
              have et : cnt (AB (a : Int) (b : Int)) (j + 1) = ct + 1 := by simp only [cnt]; rw [HCT.out]; simp [hA]
              have HSL1 : Hid (Sl wr (p1 j) (I j) (V j) (L j)) := HM2.out.sl1 j hjn hA
              have HSL2 : Hid (Sl wr (p2 j) (I j) (V j) (L j)) := HM2.out.sl2 j hjn hA
              obtain ⟨x, rfl, x0, x1, x2⟩ := HM2.out.inp.at' j hjn
              clear x2
              cases hu : U j
              · rw [hu] at x1
                cases hii : I j
                · rw [hii] at x0
                  cases hv : V j
                  · have eh : cnt (fun j => AB (a : Int) (b : Int) j && U j) (j + 1) = ch := by simp only [cnt]; rw [HCH.out]; simp [hA, hu]
                    have ew : cnt (fun j => AB (a : Int) (b : Int) j && waits I U j) (j + 1) = cw := by simp only [cnt]; rw [HCW.out]; simp [hA, waits, hu, hii]
                    have ev : cnt (fun j => AB (a : Int) (b : Int) j && V j) (j + 1) = cv := by simp only [cnt]; rw [HCV.out]; simp [hA, hv]
                    rw [hv] at HSL1 HSL2
                    clear hu hii hv hA
                    go_wp2
                    go_quiet (fail)
                    go_wp2_with (first | (go_at_call 14; have kk := HK1.out; clear kk; refine (unchoked_any (p2 j) _ _ (L j) _ (HSL2.out.drewN _)).mono ?_; rintro e w7 ⟨rfl, rfl⟩) | (go_at_call 14; refine (unchoked_any (p1 j) _ _ (L j) _ (HSL1.out.drewN _)).mono ?_; rintro e w7 ⟨rfl, rfl⟩; have HK1 : Hid True := trivial))
                    go_roundw
                    case rel => exact ⟨j + 1, by omega, by go_num, by rw [et]; go_num, by rw [eh], by rw [ew], by rw [ev], HM2.out.drewN _, below_drewN HB2.out _⟩
                    case measure => simp [intOf]; omega
                  · have eh : cnt (fun j => AB (a : Int) (b : Int) j && U j) (j + 1) = ch := by simp only [cnt]; rw [HCH.out]; simp [hA, hu]
                    have ew : cnt (fun j => AB (a : Int) (b : Int) j && waits I U j) (j + 1) = cw := by simp only [cnt]; rw [HCW.out]; simp [hA, waits, hu, hii]
                    have ev : cnt (fun j => AB (a : Int) (b : Int) j && V j) (j + 1) = cv + 1 := by simp only [cnt]; rw [HCV.out]; simp [hA, hv]
                    rw [hv] at HSL1 HSL2
                    clear hu hii hv hA
                    go_wp2
                    go_quiet (fail)
                    go_wp2_with (first | (go_at_call 14; have kk := HK1.out; clear kk; refine (unchoked_any (p2 j) _ _ (L j) _ (HSL2.out.drewN _)).mono ?_; rintro e w7 ⟨rfl, rfl⟩) | (go_at_call 14; refine (unchoked_any (p1 j) _ _ (L j) _ (HSL1.out.drewN _)).mono ?_; rintro e w7 ⟨rfl, rfl⟩; have HK1 : Hid True := trivial))
                    go_roundw
                    case rel => exact ⟨j + 1, by omega, by go_num, by rw [et]; go_num, by rw [eh], by rw [ew], by rw [ev]; go_num, HM2.out.drewN _, below_drewN HB2.out _⟩
                    case measure => simp [intOf]; omega
                · rw [hii] at x0
                  cases hv : V j
                  · have eh : cnt (fun j => AB (a : Int) (b : Int) j && U j) (j + 1) = ch := by simp only [cnt]; rw [HCH.out]; simp [hA, hu]
                    have ew : cnt (fun j => AB (a : Int) (b : Int) j && waits I U j) (j + 1) = cw + 1 := by simp only [cnt]; rw [HCW.out]; simp [hA, waits, hu, hii]
                    have ev : cnt (fun j => AB (a : Int) (b : Int) j && V j) (j + 1) = cv := by simp only [cnt]; rw [HCV.out]; simp [hA, hv]
                    rw [hv] at HSL1 HSL2
                    clear hu hii hv hA
                    go_wp2
                    go_quiet (fail)
                    go_wp2_with (first | (go_at_call 14; have kk := HK1.out; clear kk; refine (unchoked_any (p2 j) _ _ (L j) _ (HSL2.out.drewN _)).mono ?_; rintro e w7 ⟨rfl, rfl⟩) | (go_at_call 14; refine (unchoked_any (p1 j) _ _ (L j) _ (HSL1.out.drewN _)).mono ?_; rintro e w7 ⟨rfl, rfl⟩; have HK1 : Hid True := trivial))
                    go_roundw
                    case rel => exact ⟨j + 1, by omega, by go_num, by rw [et]; go_num, by rw [eh], by rw [ew]; go_num, by rw [ev], HM2.out.drewN _, below_drewN HB2.out _⟩
                    case measure => simp [intOf]; omega
                  · have eh : cnt (fun j => AB (a : Int) (b : Int) j && U j) (j + 1) = ch := by simp only [cnt]; rw [HCH.out]; simp [hA, hu]
                    have ew : cnt (fun j => AB (a : Int) (b : Int) j && waits I U j) (j + 1) = cw + 1 := by simp only [cnt]; rw [HCW.out]; simp [hA, waits, hu, hii]
                    have ev : cnt (fun j => AB (a : Int) (b : Int) j && V j) (j + 1) = cv + 1 := by simp only [cnt]; rw [HCV.out]; simp [hA, hv]
                    rw [hv] at HSL1 HSL2
                    clear hu hii hv hA
                    go_wp2
                    go_quiet (fail)
                    go_wp2_with (first | (go_at_call 14; have kk := HK1.out; clear kk; refine (unchoked_any (p2 j) _ _ (L j) _ (HSL2.out.drewN _)).mono ?_; rintro e w7 ⟨rfl, rfl⟩) | (go_at_call 14; refine (unchoked_any (p1 j) _ _ (L j) _ (HSL1.out.drewN _)).mono ?_; rintro e w7 ⟨rfl, rfl⟩; have HK1 : Hid True := trivial))
                    go_roundw
                    case rel => exact ⟨j + 1, by omega, by go_num, by rw [et]; go_num, by rw [eh], by rw [ew]; go_num, by rw [ev]; go_num, HM2.out.drewN _, below_drewN HB2.out _⟩
                    case measure => simp [intOf]; omega
              · rw [hu] at x1
                have hv : V j = true := HF.out.up j hjn hA hu
                have eh : cnt (fun j => AB (a : Int) (b : Int) j && U j) (j + 1) = ch + 1 := by simp only [cnt]; rw [HCH.out]; simp [hA, hu]
                have ew : cnt (fun j => AB (a : Int) (b : Int) j && waits I U j) (j + 1) = cw := by simp only [cnt]; rw [HCW.out]; simp [waits, hu]
                have ev : cnt (fun j => AB (a : Int) (b : Int) j && V j) (j + 1) = cv + 1 := by simp only [cnt]; rw [HCV.out]; simp [hA, hv]
                rw [hv] at HSL1 HSL2
                clear hu hv hA
                go_wp2
                go_quiet (fail)
                go_wp2_with (first | (go_at_call 14; have kk := HK1.out; clear kk; refine (unchoked_any (p2 j) _ _ (L j) _ (HSL2.out.drewN _)).mono ?_; rintro e w7 ⟨rfl, rfl⟩) | (go_at_call 14; refine (unchoked_any (p1 j) _ _ (L j) _ (HSL1.out.drewN _)).mono ?_; rintro e w7 ⟨rfl, rfl⟩; have HK1 : Hid True := trivial))
                go_roundw
                case rel => exact ⟨j + 1, by omega, by go_num, by rw [et]; go_num, by rw [eh]; go_num, by rw [ew], by rw [ev]; go_num, HM2.out.drewN _, below_drewN HB2.out _⟩
                case measure => simp [intOf]; omega
        · have hjn' : decide ((j : Int) < i) = false := by simp; omega
          obtain rfl : j = i := by omega
          have hcount : cv = ch + min (4 - ch) cw := by rw [← HCV.out, ← HCH.out, ← HCW.out]; exact HF.out.count
          by_cases b1 : 4 < ch
          · have b1' : (4 : Int) - ch < 0 := by omega
            have b2' : decide ((cw : Int) < 0) = false := by rw [decide_eq_false_iff_not]; omega
            have HR : Hid (cv = ch) := by show cv = ch; omega
            clear hcount
            go_wp2
            go_ret
            refine ⟨?_, HB2.out⟩
            have hr := HR.out
            simp [hr]
          · have b1' : decide ((4 : Int) - ch < 0) = false := by rw [decide_eq_false_iff_not]; omega
            by_cases b2 : cw < 4 - ch
            · have b2' : (cw : Int) < 4 - ch := by omega
              have HR : Hid (cv = ch + cw) := by show cv = ch + cw; omega
              clear hcount
              go_wp2
              go_ret
              refine ⟨?_, HB2.out⟩
              have hr := HR.out
              simp [hr]
            · have b2' : decide ((cw : Int) < 4 - ch) = false := by rw [decide_eq_false_iff_not]; omega
              have HR : Hid (cv = 4) := by show cv = 4; omega
              clear hcount
              go_wp2
              go_ret
              refine ⟨?_, HB2.out⟩
              have hr := HR.out
              simp [hr]; omega

set_option maxRecDepth 100000 in
set_option maxHeartbeats 2000000 in
theorem law4_hit_neg (n cap0 N : Nat) (oi ou : Bool) (ol : Int) (I U : Nat → Bool) (L : Nat → Int) (w : World) (a0 : Option Addr) (hi : In w N a0 n I U L) (hN : N ≤ w.heap.size) (hn : n ≤ 4096) (h : InvB I U n = true) (l0 : -9223372036854775808 ≤ ol) (l1 : ol ≤ 9223372036854775807)
    (a : Nat) (ha : a < n) (b : Int) (hb : b < 0) :
    Calls Try.prog 4 #[.slice a0 n cap0, .int .i64 a, .int .i64 b, sv oi ou ol] w fun e w' => e = .returned (.bool true) ∧ Below N w w' := by
  have h2' : decide ((4096 : Int) < n) = false := by rw [decide_eq_false_iff_not]; omega
  have ha' : (a : Int) < n := by omega
  have hb' : decide ((0 : Int) ≤ b) = false := by rw [decide_eq_false_iff_not]; omega
  have HI : Hid (In w N a0 n I U L) := hi
  have HV : Hid (InvB I U n = true) := h
  have HA : Hid _ := ha
  have HB : Hid _ := hb
  have HG0 : Hid (w.grownBy (w.alloc (.cells #[.bool oi, .bool ou, .int .i64 ol] 24)) none) := grown_alloc _ _ _
  have HOB : Hid (Ob (w.alloc (.cells #[.bool oi, .bool ou, .int .i64 ol] 24)) w.heap.size oi ou ol) := Ob.new _ _ _ _
  clear hi ha hb
  go_enter Try.func4, Try.ntmps4
  go_wp2_with (first
    | (go_at_call 18; refine (bytes18_any a0 n cap0 a b oi ou ol _ (by unfold maxLen; omega) true (by simp; omega)).mono ?_; rintro e w0 ⟨rfl, hg0⟩; have HG : Hid (w.grownBy w0 none) := grown_trans HG0.out hg0; have HIW : Hid (In w0 N a0 n I U L) := HI.out.below (below_grown HG.out hN (by simp)); have HOB0 : Hid (Ob w0 w.heap.size oi ou ol) := HOB.out.grown hg0 (by simp); clear hg0)
    | (go_at_call 6; refine (inv_any a0 n cap0 N I U L _ HIW.out hn).mono ?_; rintro e wz ⟨rfl, rfl⟩)
    | (go_at_call 7; have kk := HSB1.out; clear kk; refine (build_any a0 n cap0 N I U L _ HIW2.out (Nat.le_trans hN HGW2.out.size) hn).mono ?_; rintro e w3 ⟨gp2, p2, rfl, hgp, hrp, hsl, hinc, hpg, hg3⟩; have HGP2 : Hid (w2.heap.size ≤ gp2) := hgp; have HRP2 : Hid (Rw w3 gp2 n n p2) := hrp; have HSL2 : Hid (Sls w3 n p2 I U L) := hsl; have HINC2 : Hid (∀ i j, i < j → j < n → p2 i < p2 j) := hinc; have HPG2 : Hid (∀ i, i < n → gp2 < p2 i) := hpg; have HG3 : Hid (w2.grownBy w3 none) := hg3; have hob3 := HOB2.out.grown hg3 (by simp); have o0 := hob3.c0; have o1 := hob3.c1; have o2 := hob3.c2; clear hgp hrp hsl hinc hpg hg3 hob3)
    | (go_at_call 7; refine (build_any a0 n cap0 N I U L _ HIW.out (Nat.le_trans hN HG.out.size) hn).mono ?_; rintro e w1 ⟨gp1, p1, rfl, hgp, hrp, hsl, hinc, hpg, hg1⟩; have HGP1 : Hid (w0.heap.size ≤ gp1) := hgp; have HRP1 : Hid (Rw w1 gp1 n n p1) := hrp; have HSL1 : Hid (Sls w1 n p1 I U L) := hsl; have HINC1 : Hid (∀ i j, i < j → j < n → p1 i < p1 j) := hinc; have HPG1 : Hid (∀ i, i < n → gp1 < p1 i) := hpg; have HG1 : Hid (w0.grownBy w1 none) := hg1; have hob1 := HOB0.out.grown hg1 (by simp); have o0 := hob1.c0; have o1 := hob1.c1; have o2 := hob1.c2; have HOB1 : Hid (Ob w1 w.heap.size oi ou ol) := hob1; clear hgp hrp hsl hinc hpg hg1 hob1)
    | (go_at_call 8; have kk := HRP2.out; clear kk; refine (newSlot_any oi ou ol _ l0 l1).mono ?_; rintro e w4 ⟨b2, rfl, hb, hsb, hg4⟩; have HB2 : Hid (w3.heap.size ≤ b2) := hb; have HSB2 : Hid (Sl w4 b2 oi ou ol) := hsb; have HG4 : Hid (w3.grownBy w4 none) := hg4; clear hb hsb hg4)
    | (go_at_call 8; refine (newSlot_any oi ou ol _ l0 l1).mono ?_; rintro e w2 ⟨b1, rfl, hb, hsb, hg2⟩; have HB1 : Hid (w1.heap.size ≤ b1) := hb; have HSB1 : Hid (Sl w2 b1 oi ou ol) := hsb; have HG2 : Hid (w1.grownBy w2 none) := hg2; have HGW2 : Hid (w.grownBy w2 none) := grown_trans HG.out (grown_trans HG1.out hg2); have HIW2 : Hid (In w2 N a0 n I U L) := HI.out.below (below_grown HGW2.out hN (by simp)); have HOB2 : Hid (Ob w2 w.heap.size oi ou ol) := HOB1.out.grown hg2 (by simp); clear hb hsb hg2)
    | (go_at_call 10; have kk := HCK1.out; clear kk; refine (clone_any gp2 n p2 _ (HRP2.out.grown (grown_trans HG4.out (grown_trans HG5.out HG6.out)) (by simp)) hn).mono ?_; rintro e w7 ⟨gc2, rfl, hgc, hrc, hg7⟩; have HGC2 : Hid (w6.heap.size ≤ gc2) := hgc; have HRC2 : Hid (Rw w7 gc2 n n p2) := hrc; have HG7 : Hid (w6.grownBy w7 none) := hg7; clear hgc hrc hg7)
    | (go_at_call 10; refine (clone_any gp1 n p1 _ (HRP1.out.grown (grown_trans HG2.out (grown_trans HG3.out HG4.out)) (by simp)) hn).mono ?_; rintro e w5 ⟨gc1, rfl, hgc, hrc, hg5⟩; have HGC1 : Hid (w4.heap.size ≤ gc1) := hgc; have HRC1 : Hid (Rw w5 gc1 n n p1) := hrc; have HG5 : Hid (w4.grownBy w5 none) := hg5; clear hgc hrc hg5)
    | (go_at_call 9; have kk := HRC2.out; clear kk; refine (newChoker_any gc2 n n none 0 _).mono ?_; rintro e w8 ⟨c2, rfl, hc, hck, hg8⟩; have HZ : Hid (Z4 w8 N a0 n I U L gp1 gc1 c1 p1 b1 (fun _ => true) gp2 gc2 c2 p2 b2 (fun _ => true)) := z4_mk hN HG.out HI.out HV.out HGP1.out HG1.out HRP1.out HSL1.out HINC1.out HPG1.out HB1.out HSB1.out HG2.out HGP2.out HG3.out HRP2.out HSL2.out HINC2.out HPG2.out HB2.out HSB2.out HG4.out HGC1.out HRC1.out HG5.out HC1.out HCK1.out HG6.out HGC2.out HRC2.out HG7.out hc hck hg8; have HBL8 : Hid (Below N w w8) := below_grown (grown_trans HGW2.out (grown_trans HG3.out (grown_trans HG4.out (grown_trans HG5.out (grown_trans HG6.out (grown_trans HG7.out hg8)))))) hN (by simp); clear hc hck hg8 HGP1 HG1 HRP1 HSL1 HINC1 HPG1 HG2 HGP2 HG3 HSL2 HINC2 HPG2 HB2 HSB2 HG4 HGC1 HRC1 HG5 HC1 HG6 HGC2 HG7)
    | (go_at_call 9; refine (newChoker_any gc1 n n none 0 _).mono ?_; rintro e w6 ⟨c1, rfl, hc, hck, hg6⟩; have HC1 : Hid (w5.heap.size ≤ c1) := hc; have HCK1 : Hid (Ck w6 c1 (.slice (some ⟨gc1, 0, none⟩) n n) (.pointer none) 0) := hck; have HG6 : Hid (w5.grownBy w6 none) := hg6; clear hc hck hg6)
    | (go_at_call 19; refine (pick_in gp2 n n a p2 b2 _ HZ3.out.ptr2 HA.out).mono ?_; rintro e wz ⟨rfl, rfl⟩)
    | (go_at_call 19; have kk := HZ2.out; clear kk; refine (pick_out gp2 n n b2 _).mono ?_; rintro e wz ⟨rfl, rfl⟩)
    | (go_at_call 19; have kk := HZ1.out; clear kk; refine (pick_out gp1 n n b1 _).mono ?_; rintro e wz ⟨rfl, rfl⟩)
    | (go_at_call 19; refine (pick_in gp1 n n a p1 b1 _ HZ.out.ptr1 HA.out).mono ?_; rintro e wz ⟨rfl, rfl⟩)
    | (go_at_call 11; refine (z4_hit2 HZ3.out hn a HA.out).mono ?_; rintro e w12 ⟨rfl, hz, hbl⟩; obtain ⟨m, q1, q2, V, hm4, hf4⟩ := z4_end (A := AB (a : Int) (-1 : Int)) hz (ab_hm a) (ab_hm a); have HM : Hid (M4 w12 N a0 n I U L gp1 gc1 c1 p1 q1 gp2 gc2 c2 p2 q2 m (AB (a : Int) (-1 : Int)) V) := hm4; have HF : Hid (F4 n I U (AB (a : Int) (-1 : Int)) V m p1 q1 p2 q2) := hf4; have HBL : Hid (Below N w w12) := HBL11.out.trans hbl; clear hz hbl hm4 hf4)
    | (go_at_call 11; refine (z4_out2 HZ2.out hn).mono ?_; rintro e w11 ⟨rfl, hz, hbl⟩; have HZ3 : Hid _ := hz; have HBL11 : Hid (Below N w w11) := HBL10.out.trans hbl; clear hz hbl)
    | (go_at_call 11; refine (z4_out1 HZ1.out hn).mono ?_; rintro e w10 ⟨rfl, hz, hbl⟩; have HZ2 : Hid _ := hz; have HBL10 : Hid (Below N w w10) := HBL9.out.trans hbl; clear hz hbl)
    | (go_at_call 11; refine (z4_hit1 HZ.out hn a HA.out).mono ?_; rintro e w9 ⟨rfl, hz, hbl⟩; have HZ1 : Hid _ := hz; have HBL9 : Hid (Below N w w9) := HBL8.out.trans hbl; clear hz hbl)
    | (go_at_call 12; have kk := HS1.out; clear kk; refine (slots_any c2 _ _ _ _ HM.out.ck2 ⟨_, _, _, rfl⟩).mono ?_; rintro e wz ⟨rfl, rfl⟩)
    | (go_at_call 12; refine (slots_any c1 _ _ _ _ HM.out.ck1 ⟨_, _, _, rfl⟩).mono ?_; rintro e wz ⟨rfl, rfl⟩; have HS1 : Hid True := trivial))
  clear HZ HZ1 HZ2 HZ3 HBL8 HBL9 HBL10 HBL11 HCK1 HRC2 HSB1 HRP2 HIW HIW2 HGW2 HOB0 HOB1 HOB2 HOB HG0 HI HG o0 o1 o2
  have HCL : Hid (∀ i, cnt (AB (a : Int) (-1 : Int)) i ≤ i) := fun i => cnt_le _ i
  go_loopw [20, 21] (fun vm vi wr => ∃ i : Nat, i ≤ n ∧ vi = .int .i64 i ∧ vm = .int .i64 (cnt (AB (a : Int) (-1 : Int)) i : Nat) ∧ wr = w12) (fun _ vi _ => n - (intOf vi).toNat)
  case atStart => exact ⟨0, Nat.zero_le _, rfl, rfl, rfl⟩
  case round =>
    obtain ⟨i, hin, rfl, rfl, rfl⟩ := hrel
    have hcl := HCL.out i
    obtain ⟨cu, hcu⟩ : ∃ cu, cnt (AB (a : Int) (-1 : Int)) i = cu := ⟨_, rfl⟩
    rw [hcu] at hcl ⊢
    have HCU : Hid (cnt (AB (a : Int) (-1 : Int)) i = cu) := hcu
    clear hcu
    by_cases hlt : i < n
    · have hlt' : (i : Int) < n := by omega
      by_cases hia : (i : Int) = (a : Int)
      · have hia' : ((i : Int) != (a : Int)) = false := by simp; omega
        have e1 : cnt (AB (a : Int) (-1 : Int)) (i + 1) = cu := by simp only [cnt]; rw [HCU.out]; simp [AB, hia]
        clear hia
        go_wp2
        go_roundw
        case rel => exact ⟨i + 1, by omega, by go_num, by rw [e1], trivial⟩
        case measure => simp [intOf]; omega
      · have hia' : ((i : Int) != (a : Int)) = true := by rw [bne_iff_ne]; exact hia
        by_cases hib : (i : Int) = (-1 : Int)
        · exfalso; omega
        · have hib' : ((i : Int) != (-1 : Int)) = true := by rw [bne_iff_ne]; exact hib
          have e1 : cnt (AB (a : Int) (-1 : Int)) (i + 1) = cu + 1 := by simp only [cnt]; rw [HCU.out]; simp [AB, hia, hib]
          clear hia hib
          go_wp2
          go_roundw
          case rel => exact ⟨i + 1, by omega, by go_num, by rw [e1]; go_num, trivial⟩
          case measure => simp [intOf]; omega
    · have hlt' : decide ((i : Int) < n) = false := by simp; omega
      obtain rfl : i = n := by omega
      have hmc : m = cu := by rw [HF.out.len, HCU.out]
      have hmc' : ((m : Int) != (cu : Int)) = false := by simp; omega
      have HMI : Hid (m ≤ i) := by show m ≤ i; omega
      have HC4 : Hid (∀ j, cnt (AB (a : Int) (-1 : Int)) j ≤ j ∧ cnt (fun j => AB (a : Int) (-1 : Int) j && U j) j ≤ j ∧ cnt (fun j => AB (a : Int) (-1 : Int) j && waits I U j) j ≤ j ∧ cnt (fun j => AB (a : Int) (-1 : Int) j && V j) j ≤ j) := fun j => ⟨cnt_le _ j, cnt_le _ j, cnt_le _ j, cnt_le _ j⟩
      clear hmc
      go_wp2
      go_loopw [22, 23, 24, 25, 26] (fun vh vw vu vt vi wr => ∃ j : Nat, j ≤ i ∧ vi = .int .i64 j ∧ vt = .int .i64 (cnt (AB (a : Int) (-1 : Int)) j : Nat) ∧ vh = .int .i64 (cnt (fun j => AB (a : Int) (-1 : Int) j && U j) j : Nat) ∧ vw = .int .i64 (cnt (fun j => AB (a : Int) (-1 : Int) j && waits I U j) j : Nat) ∧ vu = .int .i64 (cnt (fun j => AB (a : Int) (-1 : Int) j && V j) j : Nat) ∧ M4 wr N a0 i I U L gp1 gc1 c1 p1 q1 gp2 gc2 c2 p2 q2 m (AB (a : Int) (-1 : Int)) V ∧ Below N w wr) (fun _ _ _ _ vi _ => i - (intOf vi).toNat)
      case atStart => exact ⟨0, Nat.zero_le _, rfl, rfl, rfl, rfl, rfl, HM.out, HBL.out⟩
      case round =>
        obtain ⟨j, hji, rfl, rfl, rfl, rfl, rfl, hm, hbl⟩ := hrel
        have HM2 : Hid (M4 wr N a0 i I U L gp1 gc1 c1 p1 q1 gp2 gc2 c2 p2 q2 m (AB (a : Int) (-1 : Int)) V) := hm
        have HB2 : Hid (Below N w wr) := hbl
        clear hm hbl
        obtain ⟨bt, bh, bw, bv⟩ := HC4.out j
        obtain ⟨ct, hct⟩ : ∃ c, cnt (AB (a : Int) (-1 : Int)) j = c := ⟨_, rfl⟩
        obtain ⟨ch, hch⟩ : ∃ c, cnt (fun j => AB (a : Int) (-1 : Int) j && U j) j = c := ⟨_, rfl⟩
        obtain ⟨cw, hcw⟩ : ∃ c, cnt (fun j => AB (a : Int) (-1 : Int) j && waits I U j) j = c := ⟨_, rfl⟩
        obtain ⟨cv, hcv⟩ : ∃ c, cnt (fun j => AB (a : Int) (-1 : Int) j && V j) j = c := ⟨_, rfl⟩
        rw [hct] at bt ⊢
        rw [hch] at bh ⊢
        rw [hcw] at bw ⊢
        rw [hcv] at bv ⊢
        have HCT : Hid (cnt (AB (a : Int) (-1 : Int)) j = ct) := hct
        have HCH : Hid (cnt (fun j => AB (a : Int) (-1 : Int) j && U j) j = ch) := hch
        have HCW : Hid (cnt (fun j => AB (a : Int) (-1 : Int) j && waits I U j) j = cw) := hcw
        have HCV : Hid (cnt (fun j => AB (a : Int) (-1 : Int) j && V j) j = cv) := hcv
        clear hct hch hcw hcv
        by_cases hjn : j < i
        · have hjn' : (j : Int) < i := by omega
          by_cases hja : (j : Int) = (a : Int)
          · have hja' : ((j : Int) == (a : Int)) = true := by rw [beq_iff_eq]; exact hja
            have hA : AB (a : Int) (-1 : Int) j = false := by simp [AB, hja]
            have et : cnt (AB (a : Int) (-1 : Int)) (j + 1) = ct := by simp only [cnt]; rw [HCT.out]; simp [hA]
            have eh : cnt (fun j => AB (a : Int) (-1 : Int) j && U j) (j + 1) = ch := by simp only [cnt]; rw [HCH.out]; simp [hA]
            have ew : cnt (fun j => AB (a : Int) (-1 : Int) j && waits I U j) (j + 1) = cw := by simp only [cnt]; rw [HCW.out]; simp [hA]
            have ev : cnt (fun j => AB (a : Int) (-1 : Int) j && V j) (j + 1) = cv := by simp only [cnt]; rw [HCV.out]; simp [hA]
            clear hja hA
            go_wp2
            go_roundw
            case rel => exact ⟨j + 1, by omega, by go_num, by rw [et], by rw [eh], by rw [ew], by rw [ev], HM2.out, HB2.out⟩
            case measure => simp [intOf]; omega
          · have hja' : ((j : Int) == (a : Int)) = false := by rw [beq_eq_false_iff_ne]; exact hja
            by_cases hjb : (j : Int) = (-1 : Int)
            · exfalso; omega
            · have hjb' : ((j : Int) == (-1 : Int)) = false := by rw [beq_eq_false_iff_ne]; exact hjb
              have hA : AB (a : Int) (-1 : Int) j = true := by simp [AB, hja, hjb]
              clear hja hjb
              have htm : ct < m := by rw [HF.out.len, ← HCT.out]; exact cnt_lt hjn hA
              have htm' : (ct : Int) < m := by omega
              have ca1 := HM2.out.row1.cell htm
              rw [show q1 ct = p1 j by rw [← HCT.out]; exact HF.out.at1 j hjn hA] at ca1
              have ca2 := HM2.out.row2.cell htm
              rw [show q2 ct = p2 j by rw [← HCT.out]; exact HF.out.at2 j hjn hA] at ca2
              have cp1 := HM2.out.ptr1.cell hjn
              have cp2 := HM2.out.ptr2.cell hjn
              have hnq1 := neq_same (p1 j)
              have hnq2 := neq_same (p2 j)
              have et : cnt (AB (a : Int) (-1 : Int)) (j + 1) = ct + 1 := by simp only [cnt]; rw [HCT.out]; simp [hA]
              have HSL1 : Hid (Sl wr (p1 j) (I j) (V j) (L j)) := HM2.out.sl1 j hjn hA
              have HSL2 : Hid (Sl wr (p2 j) (I j) (V j) (L j)) := HM2.out.sl2 j hjn hA
              obtain ⟨x, rfl, x0, x1, x2⟩ := HM2.out.inp.at' j hjn
              clear x2
              cases hu : U j
              · rw [hu] at x1
                cases hii : I j
                · rw [hii] at x0
                  cases hv : V j
                  · have eh : cnt (fun j => AB (a : Int) (-1 : Int) j && U j) (j + 1) = ch := by simp only [cnt]; rw [HCH.out]; simp [hA, hu]
                    have ew : cnt (fun j => AB (a : Int) (-1 : Int) j && waits I U j) (j + 1) = cw := by simp only [cnt]; rw [HCW.out]; simp [hA, waits, hu, hii]
                    have ev : cnt (fun j => AB (a : Int) (-1 : Int) j && V j) (j + 1) = cv := by simp only [cnt]; rw [HCV.out]; simp [hA, hv]
                    rw [hv] at HSL1 HSL2
                    clear hu hii hv hA
                    go_wp2
                    go_quiet (fail)
                    go_wp2_with (first | (go_at_call 14; have kk := HK1.out; clear kk; refine (unchoked_any (p2 j) _ _ (L j) _ (HSL2.out.drewN _)).mono ?_; rintro e w7 ⟨rfl, rfl⟩) | (go_at_call 14; refine (unchoked_any (p1 j) _ _ (L j) _ (HSL1.out.drewN _)).mono ?_; rintro e w7 ⟨rfl, rfl⟩; have HK1 : Hid True := trivial))
                    go_roundw
                    case rel => exact ⟨j + 1, by omega, by go_num, by rw [et]; go_num, by rw [eh], by rw [ew], by rw [ev], HM2.out.drewN _, below_drewN HB2.out _⟩
                    case measure => simp [intOf]; omega
                  · have eh : cnt (fun j => AB (a : Int) (-1 : Int) j && U j) (j + 1) = ch := by simp only [cnt]; rw [HCH.out]; simp [hA, hu]
                    have ew : cnt (fun j => AB (a : Int) (-1 : Int) j && waits I U j) (j + 1) = cw := by simp only [cnt]; rw [HCW.out]; simp [hA, waits, hu, hii]
                    have ev : cnt (fun j => AB (a : Int) (-1 : Int) j && V j) (j + 1) = cv + 1 := by simp only [cnt]; rw [HCV.out]; simp [hA, hv]
                    rw [hv] at HSL1 HSL2
                    clear hu hii hv hA
                    go_wp2
                    go_quiet (fail)
                    go_wp2_with (first | (go_at_call 14; have kk := HK1.out; clear kk; refine (unchoked_any (p2 j) _ _ (L j) _ (HSL2.out.drewN _)).mono ?_; rintro e w7 ⟨rfl, rfl⟩) | (go_at_call 14; refine (unchoked_any (p1 j) _ _ (L j) _ (HSL1.out.drewN _)).mono ?_; rintro e w7 ⟨rfl, rfl⟩; have HK1 : Hid True := trivial))
                    go_roundw
                    case rel => exact ⟨j + 1, by omega, by go_num, by rw [et]; go_num, by rw [eh], by rw [ew], by rw [ev]; go_num, HM2.out.drewN _, below_drewN HB2.out _⟩
                    case measure => simp [intOf]; omega
                · rw [hii] at x0
                  cases hv : V j
                  · have eh : cnt (fun j => AB (a : Int) (-1 : Int) j && U j) (j + 1) = ch := by simp only [cnt]; rw [HCH.out]; simp [hA, hu]
                    have ew : cnt (fun j => AB (a : Int) (-1 : Int) j && waits I U j) (j + 1) = cw + 1 := by simp only [cnt]; rw [HCW.out]; simp [hA, waits, hu, hii]
                    have ev : cnt (fun j => AB (a : Int) (-1 : Int) j && V j) (j + 1) = cv := by simp only [cnt]; rw [HCV.out]; simp [hA, hv]
                    rw [hv] at HSL1 HSL2
                    clear hu hii hv hA
                    go_wp2
                    go_quiet (fail)
                    go_wp2_with (first | (go_at_call 14; have kk := HK1.out; clear kk; refine (unchoked_any (p2 j) _ _ (L j) _ (HSL2.out.drewN _)).mono ?_; rintro e w7 ⟨rfl, rfl⟩) | (go_at_call 14; refine (unchoked_any (p1 j) _ _ (L j) _ (HSL1.out.drewN _)).mono ?_; rintro e w7 ⟨rfl, rfl⟩; have HK1 : Hid True := trivial))
                    go_roundw
                    case rel => exact ⟨j + 1, by omega, by go_num, by rw [et]; go_num, by rw [eh], by rw [ew]; go_num, by rw [ev], HM2.out.drewN _, below_drewN HB2.out _⟩
                    case measure => simp [intOf]; omega
                  · have eh : cnt (fun j => AB (a : Int) (-1 : Int) j && U j) (j + 1) = ch := by simp only [cnt]; rw [HCH.out]; simp [hA, hu]
                    have ew : cnt (fun j => AB (a : Int) (-1 : Int) j && waits I U j) (j + 1) = cw + 1 := by simp only [cnt]; rw [HCW.out]; simp [hA, waits, hu, hii]
                    have ev : cnt (fun j => AB (a : Int) (-1 : Int) j && V j) (j + 1) = cv + 1 := by simp only [cnt]; rw [HCV.out]; simp [hA, hv]
                    rw [hv] at HSL1 HSL2
                    clear hu hii hv hA
                    go_wp2
                    go_quiet (fail)
                    go_wp2_with (first | (go_at_call 14; have kk := HK1.out; clear kk; refine (unchoked_any (p2 j) _ _ (L j) _ (HSL2.out.drewN _)).mono ?_; rintro e w7 ⟨rfl, rfl⟩) | (go_at_call 14; refine (unchoked_any (p1 j) _ _ (L j) _ (HSL1.out.drewN _)).mono ?_; rintro e w7 ⟨rfl, rfl⟩; have HK1 : Hid True := trivial))
                    go_roundw
                    case rel => exact ⟨j + 1, by omega, by go_num, by rw [et]; go_num, by rw [eh], by rw [ew]; go_num, by rw [ev]; go_num, HM2.out.drewN _, below_drewN HB2.out _⟩
                    case measure => simp [intOf]; omega
              · rw [hu] at x1
                have hv : V j = true := HF.out.up j hjn hA hu
                have eh : cnt (fun j => AB (a : Int) (-1 : Int) j && U j) (j + 1) = ch + 1 := by simp only [cnt]; rw [HCH.out]; simp [hA, hu]
                have ew : cnt (fun j => AB (a : Int) (-1 : Int) j && waits I U j) (j + 1) = cw := by simp only [cnt]; rw [HCW.out]; simp [waits, hu]
                have ev : cnt (fun j => AB (a : Int) (-1 : Int) j && V j) (j + 1) = cv + 1 := by simp only [cnt]; rw [HCV.out]; simp [hA, hv]
                rw [hv] at HSL1 HSL2
                clear hu hv hA
                go_wp2
                go_quiet (fail)
                go_wp2_with (first | (go_at_call 14; have kk := HK1.out; clear kk; refine (unchoked_any (p2 j) _ _ (L j) _ (HSL2.out.drewN _)).mono ?_; rintro e w7 ⟨rfl, rfl⟩) | (go_at_call 14; refine (unchoked_any (p1 j) _ _ (L j) _ (HSL1.out.drewN _)).mono ?_; rintro e w7 ⟨rfl, rfl⟩; have HK1 : Hid True := trivial))
                go_roundw
                case rel => exact ⟨j + 1, by omega, by go_num, by rw [et]; go_num, by rw [eh]; go_num, by rw [ew], by rw [ev]; go_num, HM2.out.drewN _, below_drewN HB2.out _⟩
                case measure => simp [intOf]; omega
        · have hjn' : decide ((j : Int) < i) = false := by simp; omega
          obtain rfl : j = i := by omega
          have hcount : cv = ch + min (4 - ch) cw := by rw [← HCV.out, ← HCH.out, ← HCW.out]; exact HF.out.count
          by_cases b1 : 4 < ch
          · have b1' : (4 : Int) - ch < 0 := by omega
            have b2' : decide ((cw : Int) < 0) = false := by rw [decide_eq_false_iff_not]; omega
            have HR : Hid (cv = ch) := by show cv = ch; omega
            clear hcount
            go_wp2
            go_ret
            refine ⟨?_, HB2.out⟩
            have hr := HR.out
            simp [hr]
          · have b1' : decide ((4 : Int) - ch < 0) = false := by rw [decide_eq_false_iff_not]; omega
            by_cases b2 : cw < 4 - ch
            · have b2' : (cw : Int) < 4 - ch := by omega
              have HR : Hid (cv = ch + cw) := by show cv = ch + cw; omega
              clear hcount
              go_wp2
              go_ret
              refine ⟨?_, HB2.out⟩
              have hr := HR.out
              simp [hr]
            · have b2' : decide ((cw : Int) < 4 - ch) = false := by rw [decide_eq_false_iff_not]; omega
              have HR : Hid (cv = 4) := by show cv = 4; omega
              clear hcount
              go_wp2
              go_ret
              refine ⟨?_, HB2.out⟩
              have hr := HR.out
              simp [hr]; omega

set_option maxRecDepth 100000 in
set_option maxHeartbeats 2000000 in
theorem law4_hit_big (n cap0 N : Nat) (oi ou : Bool) (ol : Int) (I U : Nat → Bool) (L : Nat → Int) (w : World) (a0 : Option Addr) (hi : In w N a0 n I U L) (hN : N ≤ w.heap.size) (hn : n ≤ 4096) (h : InvB I U n = true) (l0 : -9223372036854775808 ≤ ol) (l1 : ol ≤ 9223372036854775807)
    (a : Nat) (ha : a < n) (b : Int) (hb : (n : Int) ≤ b) :
    Calls Try.prog 4 #[.slice a0 n cap0, .int .i64 a, .int .i64 b, sv oi ou ol] w fun e w' => e = .returned (.bool true) ∧ Below N w w' := by
  have h2' : decide ((4096 : Int) < n) = false := by rw [decide_eq_false_iff_not]; omega
  have ha' : (a : Int) < n := by omega
  have hb' : decide (b < (n : Int)) = false := by rw [decide_eq_false_iff_not]; omega
  have hb'' : (0 : Int) ≤ b := by omega
  have HI : Hid (In w N a0 n I U L) := hi
  have HV : Hid (InvB I U n = true) := h
  have HA : Hid _ := ha
  have HB : Hid _ := hb
  have HG0 : Hid (w.grownBy (w.alloc (.cells #[.bool oi, .bool ou, .int .i64 ol] 24)) none) := grown_alloc _ _ _
  have HOB : Hid (Ob (w.alloc (.cells #[.bool oi, .bool ou, .int .i64 ol] 24)) w.heap.size oi ou ol) := Ob.new _ _ _ _
  clear hi ha hb
  go_enter Try.func4, Try.ntmps4
  go_wp2_with (first
    | (go_at_call 18; refine (bytes18_any a0 n cap0 a b oi ou ol _ (by unfold maxLen; omega) true (by simp; omega)).mono ?_; rintro e w0 ⟨rfl, hg0⟩; have HG : Hid (w.grownBy w0 none) := grown_trans HG0.out hg0; have HIW : Hid (In w0 N a0 n I U L) := HI.out.below (below_grown HG.out hN (by simp)); have HOB0 : Hid (Ob w0 w.heap.size oi ou ol) := HOB.out.grown hg0 (by simp); clear hg0)
    | (go_at_call 6; refine (inv_any a0 n cap0 N I U L _ HIW.out hn).mono ?_; rintro e wz ⟨rfl, rfl⟩)
    | (go_at_call 7; have kk := HSB1.out; clear kk; refine (build_any a0 n cap0 N I U L _ HIW2.out (Nat.le_trans hN HGW2.out.size) hn).mono ?_; rintro e w3 ⟨gp2, p2, rfl, hgp, hrp, hsl, hinc, hpg, hg3⟩; have HGP2 : Hid (w2.heap.size ≤ gp2) := hgp; have HRP2 : Hid (Rw w3 gp2 n n p2) := hrp; have HSL2 : Hid (Sls w3 n p2 I U L) := hsl; have HINC2 : Hid (∀ i j, i < j → j < n → p2 i < p2 j) := hinc; have HPG2 : Hid (∀ i, i < n → gp2 < p2 i) := hpg; have HG3 : Hid (w2.grownBy w3 none) := hg3; have hob3 := HOB2.out.grown hg3 (by simp); have o0 := hob3.c0; have o1 := hob3.c1; have o2 := hob3.c2; clear hgp hrp hsl hinc hpg hg3 hob3)
    | (go_at_call 7; refine (build_any a0 n cap0 N I U L _ HIW.out (Nat.le_trans hN HG.out.size) hn).mono ?_; rintro e w1 ⟨gp1, p1, rfl, hgp, hrp, hsl, hinc, hpg, hg1⟩; have HGP1 : Hid (w0.heap.size ≤ gp1) := hgp; have HRP1 : Hid (Rw w1 gp1 n n p1) := hrp; have HSL1 : Hid (Sls w1 n p1 I U L) := hsl; have HINC1 : Hid (∀ i j, i < j → j < n → p1 i < p1 j) := hinc; have HPG1 : Hid (∀ i, i < n → gp1 < p1 i) := hpg; have HG1 : Hid (w0.grownBy w1 none) := hg1; have hob1 := HOB0.out.grown hg1 (by simp); have o0 := hob1.c0; have o1 := hob1.c1; have o2 := hob1.c2; have HOB1 : Hid (Ob w1 w.heap.size oi ou ol) := hob1; clear hgp hrp hsl hinc hpg hg1 hob1)
    | (go_at_call 8; have kk := HRP2.out; clear kk; refine (newSlot_any oi ou ol _ l0 l1).mono ?_; rintro e w4 ⟨b2, rfl, hb, hsb, hg4⟩; have HB2 : Hid (w3.heap.size ≤ b2) := hb; have HSB2 : Hid (Sl w4 b2 oi ou ol) := hsb; have HG4 : Hid (w3.grownBy w4 none) := hg4; clear hb hsb hg4)
    | (go_at_call 8; refine (newSlot_any oi ou ol _ l0 l1).mono ?_; rintro e w2 ⟨b1, rfl, hb, hsb, hg2⟩; have HB1 : Hid (w1.heap.size ≤ b1) := hb; have HSB1 : Hid (Sl w2 b1 oi ou ol) := hsb; have HG2 : Hid (w1.grownBy w2 none) := hg2; have HGW2 : Hid (w.grownBy w2 none) := grown_trans HG.out (grown_trans HG1.out hg2); have HIW2 : Hid (In w2 N a0 n I U L) := HI.out.below (below_grown HGW2.out hN (by simp)); have HOB2 : Hid (Ob w2 w.heap.size oi ou ol) := HOB1.out.grown hg2 (by simp); clear hb hsb hg2)
    | (go_at_call 10; have kk := HCK1.out; clear kk; refine (clone_any gp2 n p2 _ (HRP2.out.grown (grown_trans HG4.out (grown_trans HG5.out HG6.out)) (by simp)) hn).mono ?_; rintro e w7 ⟨gc2, rfl, hgc, hrc, hg7⟩; have HGC2 : Hid (w6.heap.size ≤ gc2) := hgc; have HRC2 : Hid (Rw w7 gc2 n n p2) := hrc; have HG7 : Hid (w6.grownBy w7 none) := hg7; clear hgc hrc hg7)
    | (go_at_call 10; refine (clone_any gp1 n p1 _ (HRP1.out.grown (grown_trans HG2.out (grown_trans HG3.out HG4.out)) (by simp)) hn).mono ?_; rintro e w5 ⟨gc1, rfl, hgc, hrc, hg5⟩; have HGC1 : Hid (w4.heap.size ≤ gc1) := hgc; have HRC1 : Hid (Rw w5 gc1 n n p1) := hrc; have HG5 : Hid (w4.grownBy w5 none) := hg5; clear hgc hrc hg5)
    | (go_at_call 9; have kk := HRC2.out; clear kk; refine (newChoker_any gc2 n n none 0 _).mono ?_; rintro e w8 ⟨c2, rfl, hc, hck, hg8⟩; have HZ : Hid (Z4 w8 N a0 n I U L gp1 gc1 c1 p1 b1 (fun _ => true) gp2 gc2 c2 p2 b2 (fun _ => true)) := z4_mk hN HG.out HI.out HV.out HGP1.out HG1.out HRP1.out HSL1.out HINC1.out HPG1.out HB1.out HSB1.out HG2.out HGP2.out HG3.out HRP2.out HSL2.out HINC2.out HPG2.out HB2.out HSB2.out HG4.out HGC1.out HRC1.out HG5.out HC1.out HCK1.out HG6.out HGC2.out HRC2.out HG7.out hc hck hg8; have HBL8 : Hid (Below N w w8) := below_grown (grown_trans HGW2.out (grown_trans HG3.out (grown_trans HG4.out (grown_trans HG5.out (grown_trans HG6.out (grown_trans HG7.out hg8)))))) hN (by simp); clear hc hck hg8 HGP1 HG1 HRP1 HSL1 HINC1 HPG1 HG2 HGP2 HG3 HSL2 HINC2 HPG2 HB2 HSB2 HG4 HGC1 HRC1 HG5 HC1 HG6 HGC2 HG7)
    | (go_at_call 9; refine (newChoker_any gc1 n n none 0 _).mono ?_; rintro e w6 ⟨c1, rfl, hc, hck, hg6⟩; have HC1 : Hid (w5.heap.size ≤ c1) := hc; have HCK1 : Hid (Ck w6 c1 (.slice (some ⟨gc1, 0, none⟩) n n) (.pointer none) 0) := hck; have HG6 : Hid (w5.grownBy w6 none) := hg6; clear hc hck hg6)
    | (go_at_call 19; refine (pick_in gp2 n n a p2 b2 _ HZ3.out.ptr2 HA.out).mono ?_; rintro e wz ⟨rfl, rfl⟩)
    | (go_at_call 19; have kk := HZ2.out; clear kk; refine (pick_out gp2 n n b2 _).mono ?_; rintro e wz ⟨rfl, rfl⟩)
    | (go_at_call 19; have kk := HZ1.out; clear kk; refine (pick_out gp1 n n b1 _).mono ?_; rintro e wz ⟨rfl, rfl⟩)
    | (go_at_call 19; refine (pick_in gp1 n n a p1 b1 _ HZ.out.ptr1 HA.out).mono ?_; rintro e wz ⟨rfl, rfl⟩)
    | (go_at_call 11; refine (z4_hit2 HZ3.out hn a HA.out).mono ?_; rintro e w12 ⟨rfl, hz, hbl⟩; obtain ⟨m, q1, q2, V, hm4, hf4⟩ := z4_end (A := AB (a : Int) (-1 : Int)) hz (ab_hm a) (ab_hm a); have HM : Hid (M4 w12 N a0 n I U L gp1 gc1 c1 p1 q1 gp2 gc2 c2 p2 q2 m (AB (a : Int) (-1 : Int)) V) := hm4; have HF : Hid (F4 n I U (AB (a : Int) (-1 : Int)) V m p1 q1 p2 q2) := hf4; have HBL : Hid (Below N w w12) := HBL11.out.trans hbl; clear hz hbl hm4 hf4)
    | (go_at_call 11; refine (z4_out2 HZ2.out hn).mono ?_; rintro e w11 ⟨rfl, hz, hbl⟩; have HZ3 : Hid _ := hz; have HBL11 : Hid (Below N w w11) := HBL10.out.trans hbl; clear hz hbl)
    | (go_at_call 11; refine (z4_out1 HZ1.out hn).mono ?_; rintro e w10 ⟨rfl, hz, hbl⟩; have HZ2 : Hid _ := hz; have HBL10 : Hid (Below N w w10) := HBL9.out.trans hbl; clear hz hbl)
    | (go_at_call 11; refine (z4_hit1 HZ.out hn a HA.out).mono ?_; rintro e w9 ⟨rfl, hz, hbl⟩; have HZ1 : Hid _ := hz; have HBL9 : Hid (Below N w w9) := HBL8.out.trans hbl; clear hz hbl)
    | (go_at_call 12; have kk := HS1.out; clear kk; refine (slots_any c2 _ _ _ _ HM.out.ck2 ⟨_, _, _, rfl⟩).mono ?_; rintro e wz ⟨rfl, rfl⟩)
    | (go_at_call 12; refine (slots_any c1 _ _ _ _ HM.out.ck1 ⟨_, _, _, rfl⟩).mono ?_; rintro e wz ⟨rfl, rfl⟩; have HS1 : Hid True := trivial))
  clear HZ HZ1 HZ2 HZ3 HBL8 HBL9 HBL10 HBL11 HCK1 HRC2 HSB1 HRP2 HIW HIW2 HGW2 HOB0 HOB1 HOB2 HOB HG0 HI HG o0 o1 o2
  have HCL : Hid (∀ i, cnt (AB (a : Int) (-1 : Int)) i ≤ i) := fun i => cnt_le _ i
  go_loopw [20, 21] (fun vm vi wr => ∃ i : Nat, i ≤ n ∧ vi = .int .i64 i ∧ vm = .int .i64 (cnt (AB (a : Int) (-1 : Int)) i : Nat) ∧ wr = w12) (fun _ vi _ => n - (intOf vi).toNat)
  case atStart => exact ⟨0, Nat.zero_le _, rfl, rfl, rfl⟩
  case round =>
    obtain ⟨i, hin, rfl, rfl, rfl⟩ := hrel
    have hcl := HCL.out i
    obtain ⟨cu, hcu⟩ : ∃ cu, cnt (AB (a : Int) (-1 : Int)) i = cu := ⟨_, rfl⟩
    rw [hcu] at hcl ⊢
    have HCU : Hid (cnt (AB (a : Int) (-1 : Int)) i = cu) := hcu
    clear hcu
    by_cases hlt : i < n
    · have hlt' : (i : Int) < n := by omega
      by_cases hia : (i : Int) = (a : Int)
      · have hia' : ((i : Int) != (a : Int)) = false := by simp; omega
        have e1 : cnt (AB (a : Int) (-1 : Int)) (i + 1) = cu := by simp only [cnt]; rw [HCU.out]; simp [AB, hia]
        clear hia
        go_wp2
        go_roundw
        case rel => exact ⟨i + 1, by omega, by go_num, by rw [e1], trivial⟩
        case measure => simp [intOf]; omega
      · have hia' : ((i : Int) != (a : Int)) = true := by rw [bne_iff_ne]; exact hia
        by_cases hib : (i : Int) = (-1 : Int)
        · exfalso; omega
        · have hib' : ((i : Int) != (-1 : Int)) = true := by rw [bne_iff_ne]; exact hib
          have e1 : cnt (AB (a : Int) (-1 : Int)) (i + 1) = cu + 1 := by simp only [cnt]; rw [HCU.out]; simp [AB, hia, hib]
          clear hia hib
          go_wp2
          go_roundw
          case rel => exact ⟨i + 1, by omega, by go_num, by rw [e1]; go_num, trivial⟩
          case measure => simp [intOf]; omega
    · have hlt' : decide ((i : Int) < n) = false := by simp; omega
      obtain rfl : i = n := by omega
      have hmc : m = cu := by rw [HF.out.len, HCU.out]
      have hmc' : ((m : Int) != (cu : Int)) = false := by simp; omega
      have HMI : Hid (m ≤ i) := by show m ≤ i; omega
      have HC4 : Hid (∀ j, cnt (AB (a : Int) (-1 : Int)) j ≤ j ∧ cnt (fun j => AB (a : Int) (-1 : Int) j && U j) j ≤ j ∧ cnt (fun j => AB (a : Int) (-1 : Int) j && waits I U j) j ≤ j ∧ cnt (fun j => AB (a : Int) (-1 : Int) j && V j) j ≤ j) := fun j => ⟨cnt_le _ j, cnt_le _ j, cnt_le _ j, cnt_le _ j⟩
      clear hmc
      go_wp2
      go_loopw [22, 23, 24, 25, 26] (fun vh vw vu vt vi wr => ∃ j : Nat, j ≤ i ∧ vi = .int .i64 j ∧ vt = .int .i64 (cnt (AB (a : Int) (-1 : Int)) j : Nat) ∧ vh = .int .i64 (cnt (fun j => AB (a : Int) (-1 : Int) j && U j) j : Nat) ∧ vw = .int .i64 (cnt (fun j => AB (a : Int) (-1 : Int) j && waits I U j) j : Nat) ∧ vu = .int .i64 (cnt (fun j => AB (a : Int) (-1 : Int) j && V j) j : Nat) ∧ M4 wr N a0 i I U L gp1 gc1 c1 p1 q1 gp2 gc2 c2 p2 q2 m (AB (a : Int) (-1 : Int)) V ∧ Below N w wr) (fun _ _ _ _ vi _ => i - (intOf vi).toNat)
      case atStart => exact ⟨0, Nat.zero_le _, rfl, rfl, rfl, rfl, rfl, HM.out, HBL.out⟩
      case round =>
        obtain ⟨j, hji, rfl, rfl, rfl, rfl, rfl, hm, hbl⟩ := hrel
        have HM2 : Hid (M4 wr N a0 i I U L gp1 gc1 c1 p1 q1 gp2 gc2 c2 p2 q2 m (AB (a : Int) (-1 : Int)) V) := hm
        have HB2 : Hid (Below N w wr) := hbl
        clear hm hbl
        obtain ⟨bt, bh, bw, bv⟩ := HC4.out j
        obtain ⟨ct, hct⟩ : ∃ c, cnt (AB (a : Int) (-1 : Int)) j = c := ⟨_, rfl⟩
        obtain ⟨ch, hch⟩ : ∃ c, cnt (fun j => AB (a : Int) (-1 : Int) j && U j) j = c := ⟨_, rfl⟩
        obtain ⟨cw, hcw⟩ : ∃ c, cnt (fun j => AB (a : Int) (-1 : Int) j && waits I U j) j = c := ⟨_, rfl⟩
        obtain ⟨cv, hcv⟩ : ∃ c, cnt (fun j => AB (a : Int) (-1 : Int) j && V j) j = c := ⟨_, rfl⟩
        rw [hct] at bt ⊢
        rw [hch] at bh ⊢
        rw [hcw] at bw ⊢
        rw [hcv] at bv ⊢
        have HCT : Hid (cnt (AB (a : Int) (-1 : Int)) j = ct) := hct
        have HCH : Hid (cnt (fun j => AB (a : Int) (-1 : Int) j && U j) j = ch) := hch
        have HCW : Hid (cnt (fun j => AB (a : Int) (-1 : Int) j && waits I U j) j = cw) := hcw
        have HCV : Hid (cnt (fun j => AB (a : Int) (-1 : Int) j && V j) j = cv) := hcv
        clear hct hch hcw hcv
        by_cases hjn : j < i
        · have hjn' : (j : Int) < i := by omega
          by_cases hja : (j : Int) = (a : Int)
          · have hja' : ((j : Int) == (a : Int)) = true := by rw [beq_iff_eq]; exact hja
            have hA : AB (a : Int) (-1 : Int) j = false := by simp [AB, hja]
            have et : cnt (AB (a : Int) (-1 : Int)) (j + 1) = ct := by simp only [cnt]; rw [HCT.out]; simp [hA]
            have eh : cnt (fun j => AB (a : Int) (-1 : Int) j && U j) (j + 1) = ch := by simp only [cnt]; rw [HCH.out]; simp [hA]
            have ew : cnt (fun j => AB (a : Int) (-1 : Int) j && waits I U j) (j + 1) = cw := by simp only [cnt]; rw [HCW.out]; simp [hA]
            have ev : cnt (fun j => AB (a : Int) (-1 : Int) j && V j) (j + 1) = cv := by simp only [cnt]; rw [HCV.out]; simp [hA]
            clear hja hA
            go_wp2
            go_roundw
            case rel => exact ⟨j + 1, by omega, by go_num, by rw [et], by rw [eh], by rw [ew], by rw [ev], HM2.out, HB2.out⟩
            case measure => simp [intOf]; omega
          · have hja' : ((j : Int) == (a : Int)) = false := by rw [beq_eq_false_iff_ne]; exact hja
            by_cases hjb : (j : Int) = (-1 : Int)
            · exfalso; omega
            · have hjb' : ((j : Int) == (-1 : Int)) = false := by rw [beq_eq_false_iff_ne]; exact hjb
              have hA : AB (a : Int) (-1 : Int) j = true := by simp [AB, hja, hjb]
              clear hja hjb
              have htm : ct < m := by rw [HF.out.len, ← HCT.out]; exact cnt_lt hjn hA
              have htm' : (ct : Int) < m := by omega
              have ca1 := HM2.out.row1.cell htm
              rw [show q1 ct = p1 j by rw [← HCT.out]; exact HF.out.at1 j hjn hA] at ca1
              have ca2 := HM2.out.row2.cell htm
              rw [show q2 ct = p2 j by rw [← HCT.out]; exact HF.out.at2 j hjn hA] at ca2
              have cp1 := HM2.out.ptr1.cell hjn
              have cp2 := HM2.out.ptr2.cell hjn
              have hnq1 := neq_same (p1 j)
              have hnq2 := neq_same (p2 j)
              have et : cnt (AB (a : Int) (-1 : Int)) (j + 1) = ct + 1 := by simp only [cnt]; rw [HCT.out]; simp [hA]
              have HSL1 : Hid (Sl wr (p1 j) (I j) (V j) (L j)) := HM2.out.sl1 j hjn hA
              have HSL2 : Hid (Sl wr (p2 j) (I j) (V j) (L j)) := HM2.out.sl2 j hjn hA
              obtain ⟨x, rfl, x0, x1, x2⟩ := HM2.out.inp.at' j hjn
              clear x2
              cases hu : U j
              · rw [hu] at x1
                cases hii : I j
                · rw [hii] at x0
                  cases hv : V j
                  · have eh : cnt (fun j => AB (a : Int) (-1 : Int) j && U j) (j + 1) = ch := by simp only [cnt]; rw [HCH.out]; simp [hA, hu]
                    have ew : cnt (fun j => AB (a : Int) (-1 : Int) j && waits I U j) (j + 1) = cw := by simp only [cnt]; rw [HCW.out]; simp [hA, waits, hu, hii]
                    have ev : cnt (fun j => AB (a : Int) (-1 : Int) j && V j) (j + 1) = cv := by simp only [cnt]; rw [HCV.out]; simp [hA, hv]
                    rw [hv] at HSL1 HSL2
                    clear hu hii hv hA
                    go_wp2
                    go_quiet (fail)
                    go_wp2_with (first | (go_at_call 14; have kk := HK1.out; clear kk; refine (unchoked_any (p2 j) _ _ (L j) _ (HSL2.out.drewN _)).mono ?_; rintro e w7 ⟨rfl, rfl⟩) | (go_at_call 14; refine (unchoked_any (p1 j) _ _ (L j) _ (HSL1.out.drewN _)).mono ?_; rintro e w7 ⟨rfl, rfl⟩; have HK1 : Hid True := trivial))
                    go_roundw
                    case rel => exact ⟨j + 1, by omega, by go_num, by rw [et]; go_num, by rw [eh], by rw [ew], by rw [ev], HM2.out.drewN _, below_drewN HB2.out _⟩
                    case measure => simp [intOf]; omega
                  · have eh : cnt (fun j => AB (a : Int) (-1 : Int) j && U j) (j + 1) = ch := by simp only [cnt]; rw [HCH.out]; simp [hA, hu]
                    have ew : cnt (fun j => AB (a : Int) (-1 : Int) j && waits I U j) (j + 1) = cw := by simp only [cnt]; rw [HCW.out]; simp [hA, waits, hu, hii]
                    have ev : cnt (fun j => AB (a : Int) (-1 : Int) j && V j) (j + 1) = cv + 1 := by simp only [cnt]; rw [HCV.out]; simp [hA, hv]
                    rw [hv] at HSL1 HSL2
                    clear hu hii hv hA
                    go_wp2
                    go_quiet (fail)
                    go_wp2_with (first | (go_at_call 14; have kk := HK1.out; clear kk; refine (unchoked_any (p2 j) _ _ (L j) _ (HSL2.out.drewN _)).mono ?_; rintro e w7 ⟨rfl, rfl⟩) | (go_at_call 14; refine (unchoked_any (p1 j) _ _ (L j) _ (HSL1.out.drewN _)).mono ?_; rintro e w7 ⟨rfl, rfl⟩; have HK1 : Hid True := trivial))
                    go_roundw
                    case rel => exact ⟨j + 1, by omega, by go_num, by rw [et]; go_num, by rw [eh], by rw [ew], by rw [ev]; go_num, HM2.out.drewN _, below_drewN HB2.out _⟩
                    case measure => simp [intOf]; omega
                · rw [hii] at x0
                  cases hv : V j
                  · have eh : cnt (fun j => AB (a : Int) (-1 : Int) j && U j) (j + 1) = ch := by simp only [cnt]; rw [HCH.out]; simp [hA, hu]
                    have ew : cnt (fun j => AB (a : Int) (-1 : Int) j && waits I U j) (j + 1) = cw + 1 := by simp only [cnt]; rw [HCW.out]; simp [hA, waits, hu, hii]
                    have ev : cnt (fun j => AB (a : Int) (-1 : Int) j && V j) (j + 1) = cv := by simp only [cnt]; rw [HCV.out]; simp [hA, hv]
                    rw [hv] at HSL1 HSL2
                    clear hu hii hv hA
                    go_wp2
                    go_quiet (fail)
                    go_wp2_with (first | (go_at_call 14; have kk := HK1.out; clear kk; refine (unchoked_any (p2 j) _ _ (L j) _ (HSL2.out.drewN _)).mono ?_; rintro e w7 ⟨rfl, rfl⟩) | (go_at_call 14; refine (unchoked_any (p1 j) _ _ (L j) _ (HSL1.out.drewN _)).mono ?_; rintro e w7 ⟨rfl, rfl⟩; have HK1 : Hid True := trivial))
                    go_roundw
                    case rel => exact ⟨j + 1, by omega, by go_num, by rw [et]; go_num, by rw [eh], by rw [ew]; go_num, by rw [ev], HM2.out.drewN _, below_drewN HB2.out _⟩
                    case measure => simp [intOf]; omega
                  · have eh : cnt (fun j => AB (a : Int) (-1 : Int) j && U j) (j + 1) = ch := by simp only [cnt]; rw [HCH.out]; simp [hA, hu]
                    have ew : cnt (fun j => AB (a : Int) (-1 : Int) j && waits I U j) (j + 1) = cw + 1 := by simp only [cnt]; rw [HCW.out]; simp [hA, waits, hu, hii]
                    have ev : cnt (fun j => AB (a : Int) (-1 : Int) j && V j) (j + 1) = cv + 1 := by simp only [cnt]; rw [HCV.out]; simp [hA, hv]
                    rw [hv] at HSL1 HSL2
                    clear hu hii hv hA
                    go_wp2
                    go_quiet (fail)
                    go_wp2_with (first | (go_at_call 14; have kk := HK1.out; clear kk; refine (unchoked_any (p2 j) _ _ (L j) _ (HSL2.out.drewN _)).mono ?_; rintro e w7 ⟨rfl, rfl⟩) | (go_at_call 14; refine (unchoked_any (p1 j) _ _ (L j) _ (HSL1.out.drewN _)).mono ?_; rintro e w7 ⟨rfl, rfl⟩; have HK1 : Hid True := trivial))
                    go_roundw
                    case rel => exact ⟨j + 1, by omega, by go_num, by rw [et]; go_num, by rw [eh], by rw [ew]; go_num, by rw [ev]; go_num, HM2.out.drewN _, below_drewN HB2.out _⟩
                    case measure => simp [intOf]; omega
              · rw [hu] at x1
                have hv : V j = true := HF.out.up j hjn hA hu
                have eh : cnt (fun j => AB (a : Int) (-1 : Int) j && U j) (j + 1) = ch + 1 := by simp only [cnt]; rw [HCH.out]; simp [hA, hu]
                have ew : cnt (fun j => AB (a : Int) (-1 : Int) j && waits I U j) (j + 1) = cw := by simp only [cnt]; rw [HCW.out]; simp [waits, hu]
                have ev : cnt (fun j => AB (a : Int) (-1 : Int) j && V j) (j + 1) = cv + 1 := by simp only [cnt]; rw [HCV.out]; simp [hA, hv]
                rw [hv] at HSL1 HSL2
                clear hu hv hA
                go_wp2
                go_quiet (fail)
                go_wp2_with (first | (go_at_call 14; have kk := HK1.out; clear kk; refine (unchoked_any (p2 j) _ _ (L j) _ (HSL2.out.drewN _)).mono ?_; rintro e w7 ⟨rfl, rfl⟩) | (go_at_call 14; refine (unchoked_any (p1 j) _ _ (L j) _ (HSL1.out.drewN _)).mono ?_; rintro e w7 ⟨rfl, rfl⟩; have HK1 : Hid True := trivial))
                go_roundw
                case rel => exact ⟨j + 1, by omega, by go_num, by rw [et]; go_num, by rw [eh]; go_num, by rw [ew], by rw [ev]; go_num, HM2.out.drewN _, below_drewN HB2.out _⟩
                case measure => simp [intOf]; omega
        · have hjn' : decide ((j : Int) < i) = false := by simp; omega
          obtain rfl : j = i := by omega
          have hcount : cv = ch + min (4 - ch) cw := by rw [← HCV.out, ← HCH.out, ← HCW.out]; exact HF.out.count
          by_cases b1 : 4 < ch
          · have b1' : (4 : Int) - ch < 0 := by omega
            have b2' : decide ((cw : Int) < 0) = false := by rw [decide_eq_false_iff_not]; omega
            have HR : Hid (cv = ch) := by show cv = ch; omega
            clear hcount
            go_wp2
            go_ret
            refine ⟨?_, HB2.out⟩
            have hr := HR.out
            simp [hr]
          · have b1' : decide ((4 : Int) - ch < 0) = false := by rw [decide_eq_false_iff_not]; omega
            by_cases b2 : cw < 4 - ch
            · have b2' : (cw : Int) < 4 - ch := by omega
              have HR : Hid (cv = ch + cw) := by show cv = ch + cw; omega
              clear hcount
              go_wp2
              go_ret
              refine ⟨?_, HB2.out⟩
              have hr := HR.out
              simp [hr]
            · have b2' : decide ((cw : Int) < 4 - ch) = false := by rw [decide_eq_false_iff_not]; omega
              have HR : Hid (cv = 4) := by show cv = 4; omega
              clear hcount
              go_wp2
              go_ret
              refine ⟨?_, HB2.out⟩
              have hr := HR.out
              simp [hr]; omega
end Go.Proofs.Qxb6616745a
