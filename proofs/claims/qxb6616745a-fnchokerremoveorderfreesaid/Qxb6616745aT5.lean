import Derived.Test.Qxb6616745aT4
namespace Go.Proofs.Qxb6616745a
open Go.RowKit

def waits (I U : Nat → Bool) (i : Nat) : Bool := !U i && I i
/-- The documented state: at most four unchoked, and none waits while one of the four is free. -/
def InvB (I U : Nat → Bool) (n : Nat) : Bool := decide (cnt U n ≤ 4) && (decide (4 ≤ cnt U n) || decide (cnt (waits I U) n = 0))

set_option maxRecDepth 100000 in
set_option maxHeartbeats 1000000 in
theorem inv_any (a0 : Option Addr) (n cap0 N : Nat) (I U : Nat → Bool) (L : Nat → Int) (w : World) (hi : In w N a0 n I U L) (hn : n ≤ 4096) :
    Calls Try.prog 6 #[.slice a0 n cap0] w fun e w' => e = .returned (.bool (InvB I U n)) ∧ w = w' := by
  have HI : Hid (In w N a0 n I U L) := hi
  clear hi
  go_enter Try.func6, Try.ntmps6
  go_wp2
  go_loopw [5, 4, 3] (fun vi vw vb wr => ∃ i : Nat, i ≤ n ∧ vi = .int .i64 i ∧ wr = w ∧ vw = .int .i64 (cnt (waits I U) i) ∧ vb = .int .i64 (cnt U i)) (fun vi _ _ _ => n - (intOf vi).toNat)
  case atStart => exact ⟨0, Nat.zero_le _, rfl, rfl, rfl, rfl⟩
  case round =>
    obtain ⟨i, hin, rfl, rfl, rfl, rfl⟩ := hrel
    have h1 := cnt_le U i
    have h2 := cnt_le (waits I U) i
    obtain ⟨cu, hcu⟩ : ∃ c, cnt U i = c := ⟨_, rfl⟩
    obtain ⟨cw, hcw⟩ : ∃ c, cnt (waits I U) i = c := ⟨_, rfl⟩
    rw [hcu] at h1 ⊢
    rw [hcw] at h2 ⊢
    have HCU : Hid (cnt U i = cu) := hcu
    have HCW : Hid (cnt (waits I U) i = cw) := hcw
    clear hcu hcw
    by_cases hlt : i < n
    · have hlt' : (i : Int) < n := by omega
      obtain ⟨x, rfl, hx, c0, c1, c2, l0, l1⟩ := HI.out i hlt
      clear hx c2 l0 l1
      cases hu : U i
      · rw [hu] at c1
        cases hii : I i
        · rw [hii] at c0
          have e1 : cnt U (i + 1) = cu := by unfold cnt; rw [HCU.out, hu]; rfl
          have e2 : cnt (waits I U) (i + 1) = cw := by unfold cnt; rw [HCW.out]; simp [waits, hu, hii]
          clear hu hii
          go_wp2
          go_roundw
          case rel => exact ⟨i + 1, by omega, by go_num, trivial, by rw [e2], by rw [e1]⟩
          case measure => simp [intOf]; omega
        · rw [hii] at c0
          have e1 : cnt U (i + 1) = cu := by unfold cnt; rw [HCU.out, hu]; rfl
          have e2 : cnt (waits I U) (i + 1) = cw + 1 := by unfold cnt; rw [HCW.out]; simp [waits, hu, hii]
          clear hu hii
          go_wp2
          go_roundw
          case rel => exact ⟨i + 1, by omega, by go_num, trivial, by rw [e2]; go_num, by rw [e1]⟩
          case measure => simp [intOf]; omega
      · rw [hu] at c1
        have e1 : cnt U (i + 1) = cu + 1 := by unfold cnt; rw [HCU.out, hu]; rfl
        have e2 : cnt (waits I U) (i + 1) = cw := by unfold cnt; rw [HCW.out]; simp [waits, hu]
        clear hu
        go_wp2
        go_roundw
        case rel => exact ⟨i + 1, by omega, by go_num, trivial, by rw [e2], by rw [e1]; go_num⟩
        case measure => simp [intOf]; omega
    · obtain rfl : i = n := by omega
      have hlt' : decide ((i : Int) < i) = false := by simp
      have HE : Hid (InvB I U i = (decide (cu ≤ 4) && (decide (4 ≤ cu) || decide (cw = 0)))) := by show _ = _; unfold InvB; rw [HCU.out, HCW.out]
      by_cases b1 : 4 < cu
      · have b1' : (4 : Int) < cu := by omega
        go_wp2
        go_ret
        refine ⟨?_, rfl⟩
        rw [HE.out]
        simp; omega
      · have b1' : ¬ (4 : Int) < cu := by omega
        by_cases b2 : cu < 4 ∧ 0 < cw
        · have b2' : (cu : Int) < 4 := by omega
          have b2'' : (0 : Int) < cw := by omega
          go_wp2
          go_ret
          refine ⟨?_, rfl⟩
          rw [HE.out]
          simp; omega
        · by_cases b3 : cu < 4
          · have b3' : (cu : Int) < 4 := by omega
            have b3'' : decide ((0 : Int) < cw) = false := by rw [decide_eq_false_iff_not]; omega
            go_wp2
            go_ret
            refine ⟨?_, rfl⟩
            rw [HE.out]
            simp; omega
          · have b3' : decide ((cu : Int) < 4) = false := by rw [decide_eq_false_iff_not]; omega
            go_wp2
            go_ret
            refine ⟨?_, rfl⟩
            rw [HE.out]
            simp; omega

/-- Comes before i in the order of (Last, position). -/
def ahd (L : Nat → Int) (j i : Nat) : Bool := decide (L j < L i) || (decide (L j = L i) && decide (j < i))
def ahead (I U : Nat → Bool) (L : Nat → Int) (r : Int) (i j : Nat) : Bool := !decide ((j : Int) = r) && !decide (j = i) && waits I U j && ahd L j i

set_option maxRecDepth 100000 in
set_option maxHeartbeats 2000000 in
theorem ahead_any (a0 : Option Addr) (n cap0 N i : Nat) (r : Int) (I U : Nat → Bool) (L : Nat → Int) (w : World) (hi : In w N a0 n I U L) (hN : N ≤ w.heap.size) (hn : n ≤ 4096) (hin : i < n) :
    Calls Try.prog 13 #[.slice a0 n cap0, .int .i64 r, .int .i64 r, .int .i64 i] w fun e w' => e = .returned (.int .i64 (cnt (ahead I U L r i) n)) ∧ w.grownBy w' none := by
  have HI : Hid (In w N a0 n I U L) := hi
  clear hi
  go_enter Try.func13, Try.ntmps13
  go_wp2
  go_loopw [10, 9] (fun vj vc wr => ∃ j : Nat, j ≤ n ∧ vj = .int .i64 j ∧ w.grownBy wr none ∧ vc = .int .i64 (cnt (ahead I U L r i) j)) (fun vj _ _ => n - (intOf vj).toNat)
  case atStart => exact ⟨0, Nat.zero_le _, rfl, grown_refl _ _, rfl⟩
  case round =>
    obtain ⟨j, hjn, rfl, hg, rfl⟩ := hrel
    have HG : Hid (w.grownBy wr none) := hg
    have HIR : Hid (In wr N a0 n I U L) := HI.out.below (below_grown hg hN (by simp))
    clear hg
    have h1 := cnt_le (ahead I U L r i) j
    obtain ⟨c, hc⟩ : ∃ c, cnt (ahead I U L r i) j = c := ⟨_, rfl⟩
    rw [hc] at h1 ⊢
    have HC : Hid (cnt (ahead I U L r i) j = c) := hc
    clear hc
    by_cases hlt : j < n
    · have hlt' : (j : Int) < n := by omega
      have hin' : (i : Int) < n := by omega
      obtain ⟨x, rfl, hx, c0, c1, c2, l0, l1⟩ := HIR.out j hlt
      obtain ⟨_, ex, _, d0, d1, d2, m0, m1⟩ := HIR.out i hin
      obtain rfl := Option.some.inj ex
      clear hx ex d0 d1
      by_cases b1 : (j : Int) = r
      · have b1' : ((j : Int) == r) = true := by simpa using b1
        have e : cnt (ahead I U L r i) (j + 1) = c := by unfold cnt; rw [HC.out]; simp [ahead, b1]
        clear b1
        go_wp2
        go_roundw
        case rel => exact ⟨j + 1, by omega, by go_num, HG.out, by rw [e]⟩
        case measure => simp [intOf]; omega
      · have b1' : ((j : Int) == r) = false := by simpa using b1
        by_cases b2 : j = i
        · have b2' : ((j : Int) == (i : Int)) = true := by rw [beq_iff_eq]; omega
          have e : cnt (ahead I U L r i) (j + 1) = c := by unfold cnt; rw [HC.out]; simp [ahead, b2]
          clear b1 b2
          go_wp2
          go_roundw
          case rel => exact ⟨j + 1, by omega, by go_num, HG.out, by rw [e]⟩
          case measure => simp [intOf]; omega
        · have b2' : ((j : Int) == (i : Int)) = false := by rw [beq_eq_false_iff_ne]; omega
          cases hu : U j
          · rw [hu] at c1
            cases hii : I j
            · rw [hii] at c0
              have e : cnt (ahead I U L r i) (j + 1) = c := by unfold cnt; rw [HC.out]; simp [ahead, waits, hu, hii]
              clear b1 b2 hu hii
              go_wp2
              go_roundw
              case rel => exact ⟨j + 1, by omega, by go_num, HG.out, by rw [e]⟩
              case measure => simp [intOf]; omega
            · rw [hii] at c0
              by_cases b3 : L j < L i
              · have e : cnt (ahead I U L r i) (j + 1) = c + 1 := by unfold cnt; rw [HC.out]; simp [ahead, waits, hu, hii, ahd, b1, b2, b3]
                clear b1 b2 hu hii
                go_wp2
                go_quiet (fail)
                go_wp2
                go_roundw
                case rel => exact ⟨j + 1, by omega, by go_num, grown_drewN HG.out _, by rw [e]; go_num⟩
                case measure => simp [intOf]; omega
              · have b3' : decide (L j < L i) = false := by simpa using b3
                by_cases b4 : L j = L i
                · have b4' : (L j == L i) = true := by simpa using b4
                  by_cases b5 : j < i
                  · have b5' : (j : Int) < i := by omega
                    have e : cnt (ahead I U L r i) (j + 1) = c + 1 := by unfold cnt; rw [HC.out]; simp [ahead, waits, hu, hii, ahd, b1, b2, b4, b5]
                    clear b1 b2 hu hii b4
                    go_wp2
                    go_quiet (fail)
                    go_wp2
                    go_roundw
                    case rel => exact ⟨j + 1, by omega, by go_num, grown_drewN HG.out _, by rw [e]; go_num⟩
                    case measure => simp [intOf]; omega
                  · have b5' : decide ((j : Int) < i) = false := by rw [decide_eq_false_iff_not]; omega
                    have e : cnt (ahead I U L r i) (j + 1) = c := by unfold cnt; rw [HC.out]; simp [ahead, ahd, b3, b5]
                    clear b1 b2 hu hii b4
                    go_wp2
                    go_quiet (fail)
                    go_wp2
                    go_roundw
                    case rel => exact ⟨j + 1, by omega, by go_num, grown_drewN HG.out _, by rw [e]⟩
                    case measure => simp [intOf]; omega
                · have b4' : (L j == L i) = false := by simpa using b4
                  have e : cnt (ahead I U L r i) (j + 1) = c := by unfold cnt; rw [HC.out]; simp [ahead, ahd, b3, b4]
                  clear b1 b2 hu hii b4
                  go_wp2
                  go_quiet (fail)
                  go_wp2
                  go_roundw
                  case rel => exact ⟨j + 1, by omega, by go_num, grown_drewN HG.out _, by rw [e]⟩
                  case measure => simp [intOf]; omega
          · rw [hu] at c1
            have e : cnt (ahead I U L r i) (j + 1) = c := by unfold cnt; rw [HC.out]; simp [ahead, waits, hu]
            clear b1 b2 hu
            go_wp2
            go_roundw
            case rel => exact ⟨j + 1, by omega, by go_num, HG.out, by rw [e]⟩
            case measure => simp [intOf]; omega
    · obtain rfl : j = n := by omega
      have hlt' : decide ((j : Int) < j) = false := by simp
      go_wp2
      go_ret
      exact ⟨by rw [HC.out]; rfl, HG.out⟩
end Go.Proofs.Qxb6616745a
