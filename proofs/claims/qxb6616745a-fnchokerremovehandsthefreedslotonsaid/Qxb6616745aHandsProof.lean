import Derived.Test.Qxb6616745aRows
import Derived.Test.Qxb6616745aV5h
import Derived.Test.Qxb6616745aV5n
import Derived.Test.Qxb6616745aV5b
import Derived.Test.Qxb6616745aX1
import Derived.WalkKit
import Derived.ProofKit
import Derived.OpenShut
import Derived.ChangeOld
import Derived.Below
namespace Go.Proofs.Qxb6616745a.fnChokerRemoveHandsTheFreedSlotOn
open Go.ChangeShapes Go.WideShapes Go.ChangeAt Go.RowKit
set_option linter.unusedVariables false

theorem own : ownKnob Try.prog.godebug = none := by kernel_rfl
theorem laidOut : laidOutB Try.prog = true := by kernel_rfl

theorem walk (a0 : Option Addr) (n cap0 : Nat) (k opt rounds : Int) (oi ou : Bool) (ol : Int) (I U : Nat → Bool) (L : Nat → Int) (w : World) (hm : n ≤ maxLen) (hi : In w w.heap.size a0 n I U L) (l0 : -9223372036854775808 ≤ ol) (l1 : ol ≤ 9223372036854775807) :
    Calls Try.prog 3 #[.slice a0 n cap0, .int .i64 k, sv oi ou ol, .int .i64 opt, .int .i64 rounds] w fun e w' => e = .returned (.bool true) ∧ Below w.heap.size w w' := by
  by_cases hn : n ≤ 4096
  · cases h : InvB I U n
    · exact (law3_bad a0 n cap0 w.heap.size k opt rounds oi ou ol I U L w hi (Nat.le_refl _) hn h).mono fun e w' ⟨he, hg⟩ => ⟨he, below_grown hg (Nat.le_refl _) (by simp)⟩
    · by_cases hk0 : k < 0
      · by_cases hq0 : opt < 0
        · exact law3_neg_neg n cap0 w.heap.size k rounds oi ou ol I U L w a0 hi (Nat.le_refl _) hn h hk0 l0 l1 opt hq0
        · by_cases hq1 : (n : Int) ≤ opt
          · exact law3_neg_big n cap0 w.heap.size k rounds oi ou ol I U L w a0 hi (Nat.le_refl _) hn h hk0 l0 l1 opt hq1
          · obtain ⟨q, rfl⟩ := Int.eq_ofNat_of_zero_le (show 0 ≤ opt by omega)
            exact law3_neg_in n cap0 w.heap.size k rounds oi ou ol I U L w a0 hi (Nat.le_refl _) hn h hk0 l0 l1 q (by omega)
      · by_cases hk1 : (n : Int) ≤ k
        · by_cases hq0 : opt < 0
          · exact law3_big_neg n cap0 w.heap.size k rounds oi ou ol I U L w a0 hi (Nat.le_refl _) hn h hk1 l0 l1 opt hq0
          · by_cases hq1 : (n : Int) ≤ opt
            · exact law3_big_big n cap0 w.heap.size k rounds oi ou ol I U L w a0 hi (Nat.le_refl _) hn h hk1 l0 l1 opt hq1
            · obtain ⟨q, rfl⟩ := Int.eq_ofNat_of_zero_le (show 0 ≤ opt by omega)
              exact law3_big_in n cap0 w.heap.size k rounds oi ou ol I U L w a0 hi (Nat.le_refl _) hn h hk1 l0 l1 q (by omega)
        · obtain ⟨k', rfl⟩ := Int.eq_ofNat_of_zero_le (show 0 ≤ k by omega)
          have hkn : k' < n := by omega
          obtain ⟨x, rfl, hx, _⟩ := hi k' hkn
          obtain ⟨n', hn'⟩ : ∃ n', n = n' + 1 := ⟨n - 1, by omega⟩
          by_cases hq0 : opt < 0
          · exact law3_hit_neg n cap0 w.heap.size k' rounds oi ou ol I U L w x hi hx (Nat.le_refl _) hn h hkn l0 l1 opt hq0 n' hn'
          · by_cases hq1 : (n : Int) ≤ opt
            · exact law3_hit_big n cap0 w.heap.size k' rounds oi ou ol I U L w x hi hx (Nat.le_refl _) hn h hkn l0 l1 opt hq1 n' hn'
            · obtain ⟨q, rfl⟩ := Int.eq_ofNat_of_zero_le (show 0 ≤ opt by omega)
              exact law3_hit_in n cap0 w.heap.size k' rounds oi ou ol I U L w x hi hx (Nat.le_refl _) hn h hkn l0 l1 q (by omega) n' hn'
  · exact (law3_long a0 n cap0 k opt rounds oi ou ol w hm (by omega)).mono fun e w' ⟨he, hg⟩ => ⟨he, below_grown hg (Nat.le_refl _) (by simp)⟩

set_option maxRecDepth 100000 in
theorem lifted (os : Os) (started : os.Started) (H : Type) (enc : TypeId × Value → H) :
    ReturnsInHanded {} Try.checked os 3 .any (Rows.fnChokerRemoveHandsTheFreedSlotOnSpec.pre6 enc Try.prog Try.f3 Rows.fnChokerRemoveHandsTheFreedSlotOnRow.domain false) (Rows.fnChokerRemoveHandsTheFreedSlotOnSpec.post enc Try.prog Try.f3 false true false false) := by
  refine returnsInHanded_of_change (C := Try.checked) own started (by kernel_rfl) Try.func3
    (ChangeSpec.witness6 (enc := enc) (C := Try.checked) false ⟨#[], #[.slice none 0 0, .int .i64 0, .agg #[.bool false, .bool false, .int .i64 0], .int .i64 0, .int .i64 0], []⟩ 8 (by kernel_rfl) (by kernel_rfl) (by kernel_rfl) (by kernel_rfl)) ?_
  intro W base args ds gs before hval0 hW hcnd _
  have hval : ∀ (j : Nat) t v, Try.f3.params[j]? = some t → args[j]? = some v → Value.okWide Try.prog W .any base t v := hval0
  have hW' := hW
  obtain ⟨p, q, hA0, hV, rfl, hfz, hnd⟩ := hW
  have hA : DataW.TrodAll enc Try.prog W 0 (fun _ => true) true Try.f3.params.toList args.toList ds p := hA0
  rw [Try.params3] at hA hval
  obtain ⟨v0, vs0, d0, ds0, p0, q0, hargs, rfl, rfl, h0, r0⟩ := trodAll_cons hA
  obtain ⟨v1, vs1, d1, ds1, p1, q1, rfl, rfl, rfl, h1, r1⟩ := trodAll_cons r0
  obtain ⟨v2, vs2, d2, ds2, p2, q2, rfl, rfl, rfl, h2, r2⟩ := trodAll_cons r1
  obtain ⟨v3, vs3, d3, ds3, p3, q3, rfl, rfl, rfl, h3, r3⟩ := trodAll_cons r2
  obtain ⟨v4, vs4, d4, ds4, p4, q4, rfl, rfl, rfl, h4, r4⟩ := trodAll_cons r3
  obtain ⟨rfl, rfl, rfl⟩ := trodAll_nil r4
  obtain rfl : args = #[v0, v1, v2, v3, v4] := by cases args; simp_all
  obtain ⟨rfl, rfl⟩ := trodVars_none hV
  obtain ⟨a0, len0, cap0, rfl⟩ := okWide_slice Try.underlying22 (hval 0 22 v0 rfl rfl)
  have k0 := h0
  have lt0 : ∀ x ∈ p0, x.block < W.heap.size := by obtain ⟨m, hm⟩ := k0; exact DataW.trod_lt m _ _ _ hm
  obtain ⟨hm, I, U, L, hin⟩ : len0 ≤ maxLen ∧ ∃ I U L, In W W.heap.size a0 len0 I U L := by
    obtain ⟨fuel, hf⟩ := h0
    exact in_of hf
  obtain ⟨a1, rfl, rfl, rfl, w1⟩ := open_int Try.underlying3 (hval 1 3 v1 rfl rfl) h1
  obtain ⟨a3, rfl, rfl, rfl, w3⟩ := open_int Try.underlying3 (hval 3 3 v3 rfl rfl) h3
  obtain ⟨a4, rfl, rfl, rfl, w4⟩ := open_int Try.underlying3 (hval 4 3 v4 rfl rfl) h4
  have h2' := fun W' sp' => open_slot (W' := W') (sp' := sp') (hval 2 24 v2 rfl rfl) h2
  obtain ⟨oi, ou, ol, rfl, rfl, l0, l1, _⟩ := h2' W (fun _ => true)
  clear hA0 hval0
  refine (walk a0 len0 cap0 a1 a3 a4 oi ou ol I U L W hm hin l0 l1).mono fun e W' ⟨he, bel⟩ => ?_
  subst he
  have s2 : DataW.Trod enc Try.prog W' 0 (fun b => decide (b < W.heap.size)) true 24 (sv oi ou ol) d2 [] := by
    obtain ⟨i, u, l, e, _, _, _, h⟩ := h2' W' (fun b => decide (b < W.heap.size))
    simp only [sv, Value.agg.injEq, Array.mk.injEq, List.cons.injEq, Value.bool.injEq, Value.int.injEq, and_true, true_and] at e
    obtain ⟨rfl, rfl, rfl⟩ := e
    exact h
  exact ⟨_, rfl, _, _, _, [], _, [], hW', trodAll_mk1 (shut_bool Try.underlying4 _), (trodAll_cons_mk (Below.trod laidOut (by kernel_rfl) (of_decide_eq_true (by kernel_rfl)) k0 bel lt0) (trodAll_cons_mk (shut_int Try.underlying3 w1) (trodAll_cons_mk s2 (trodAll_cons_mk (shut_int Try.underlying3 w3) (trodAll_cons_mk (shut_int Try.underlying3 w4) trodAll_mk0))))), rfl, bel.frame _, fun h => by cases h⟩

theorem over : Rows.fnChokerRemoveHandsTheFreedSlotOnRow.holds Try.pinned (OpenSpec.ofChange Rows.fnChokerRemoveHandsTheFreedSlotOnSpec) :=
  OpenClaim.holds_of_wide 3 Try.f3 rfl rfl rfl rfl rfl rfl rfl ⟨rfl, rfl, rfl, rfl, rfl⟩ rfl rfl rfl rfl rfl (by kernel_rfl) Try.func3 (by kernel_rfl)
    (of_decide_eq_true (by kernel_rfl)) (by unfold Func.isWrapper; first | (rw [if_pos (by decide +kernel)]; kernel_rfl) | (rw [if_neg (by decide +kernel)]; exact ⟨rfl, rfl⟩))
    (fun os started H enc _ => lifted os started H enc)

theorem proved : Rows.FnChokerRemoveHandsTheFreedSlotOnSaid := over
end Go.Proofs.Qxb6616745a.fnChokerRemoveHandsTheFreedSlotOn

namespace Go.Proofs.Qxb6616745a
theorem chokerRemoveHandsOn_proved : Rows.FnChokerRemoveHandsTheFreedSlotOnSaid := fnChokerRemoveHandsTheFreedSlotOn.proved
end Go.Proofs.Qxb6616745a
