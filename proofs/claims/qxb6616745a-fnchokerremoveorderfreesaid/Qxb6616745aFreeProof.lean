import Derived.Test.Qxb6616745aRows
import Derived.Test.Qxb6616745aV7h
import Derived.Test.Qxb6616745aV7n
import Derived.Test.Qxb6616745aV7b
import Derived.Test.Qxb6616745aX1
import Derived.WalkKit
import Derived.ProofKit
import Derived.OpenShut
import Derived.ChangeOld
import Derived.Below
namespace Go.Proofs.Qxb6616745a.fnChokerRemoveOrderFree
open Go.ChangeShapes Go.WideShapes Go.ChangeAt Go.RowKit
set_option linter.unusedVariables false

theorem own : ownKnob Try.prog.godebug = none := by kernel_rfl
theorem laidOut : laidOutB Try.prog = true := by kernel_rfl

theorem walk (a0 : Option Addr) (n cap0 : Nat) (a b : Int) (oi ou : Bool) (ol : Int) (I U : Nat → Bool) (L : Nat → Int) (w : World) (hm : n ≤ maxLen) (hi : In w w.heap.size a0 n I U L) (l0 : -9223372036854775808 ≤ ol) (l1 : ol ≤ 9223372036854775807) :
    Calls Try.prog 4 #[.slice a0 n cap0, .int .i64 a, .int .i64 b, sv oi ou ol] w fun e w' => e = .returned (.bool true) ∧ Below w.heap.size w w' := by
  by_cases hn : n ≤ 4096
  · cases h : InvB I U n
    · exact (law4_bad a0 n cap0 w.heap.size a b oi ou ol I U L w hi (Nat.le_refl _) hn h).mono fun e w' ⟨he, hg⟩ => ⟨he, below_grown hg (Nat.le_refl _) (by simp)⟩
    · by_cases a0' : a < 0
      · by_cases b0' : b < 0
        · exact law4_neg_neg n cap0 w.heap.size oi ou ol I U L w a0 hi (Nat.le_refl _) hn h l0 l1 a a0' b b0'
        · by_cases b1' : (n : Int) ≤ b
          · exact law4_neg_big n cap0 w.heap.size oi ou ol I U L w a0 hi (Nat.le_refl _) hn h l0 l1 a a0' b b1'
          · obtain ⟨b, rfl⟩ := Int.eq_ofNat_of_zero_le (show 0 ≤ b by omega)
            exact law4_neg_hit n cap0 w.heap.size oi ou ol I U L w a0 hi (Nat.le_refl _) hn h l0 l1 a a0' b (by omega)
      · by_cases a1' : (n : Int) ≤ a
        · by_cases b0' : b < 0
          · exact law4_big_neg n cap0 w.heap.size oi ou ol I U L w a0 hi (Nat.le_refl _) hn h l0 l1 a a1' b b0'
          · by_cases b1' : (n : Int) ≤ b
            · exact law4_big_big n cap0 w.heap.size oi ou ol I U L w a0 hi (Nat.le_refl _) hn h l0 l1 a a1' b b1'
            · obtain ⟨b, rfl⟩ := Int.eq_ofNat_of_zero_le (show 0 ≤ b by omega)
              exact law4_big_hit n cap0 w.heap.size oi ou ol I U L w a0 hi (Nat.le_refl _) hn h l0 l1 a a1' b (by omega)
        · obtain ⟨a, rfl⟩ := Int.eq_ofNat_of_zero_le (show 0 ≤ a by omega)
          have han : a < n := by omega
          by_cases b0' : b < 0
          · exact law4_hit_neg n cap0 w.heap.size oi ou ol I U L w a0 hi (Nat.le_refl _) hn h l0 l1 a han b b0'
          · by_cases b1' : (n : Int) ≤ b
            · exact law4_hit_big n cap0 w.heap.size oi ou ol I U L w a0 hi (Nat.le_refl _) hn h l0 l1 a han b b1'
            · obtain ⟨b, rfl⟩ := Int.eq_ofNat_of_zero_le (show 0 ≤ b by omega)
              exact law4_hit_hit n cap0 w.heap.size oi ou ol I U L w a0 hi (Nat.le_refl _) hn h l0 l1 a han b (by omega)
  · exact (law4_long a0 n cap0 a b oi ou ol w hm (by omega)).mono fun e w' ⟨he, hg⟩ => ⟨he, below_grown hg (Nat.le_refl _) (by simp)⟩

set_option maxRecDepth 100000 in
theorem lifted (os : Os) (started : os.Started) (H : Type) (enc : TypeId × Value → H) :
    ReturnsInHanded {} Try.checked os 4 .any (Rows.fnChokerRemoveOrderFreeSpec.pre6 enc Try.prog Try.f4 Rows.fnChokerRemoveOrderFreeRow.domain false) (Rows.fnChokerRemoveOrderFreeSpec.post enc Try.prog Try.f4 false true false false) := by
  refine returnsInHanded_of_change (C := Try.checked) own started (by kernel_rfl) Try.func4
    (ChangeSpec.witness6 (enc := enc) (C := Try.checked) false ⟨#[], #[.slice none 0 0, .int .i64 0, .int .i64 0, .agg #[.bool false, .bool false, .int .i64 0]], []⟩ 8 (by kernel_rfl) (by kernel_rfl) (by kernel_rfl) (by kernel_rfl)) ?_
  intro W base args ds gs before hval0 hW hcnd _
  have hval : ∀ (j : Nat) t v, Try.f4.params[j]? = some t → args[j]? = some v → Value.okWide Try.prog W .any base t v := hval0
  have hW' := hW
  obtain ⟨p, q, hA0, hV, rfl, hfz, hnd⟩ := hW
  have hA : DataW.TrodAll enc Try.prog W 0 (fun _ => true) true Try.f4.params.toList args.toList ds p := hA0
  rw [Try.params4] at hA hval
  obtain ⟨v0, vs0, d0, ds0, p0, q0, hargs, rfl, rfl, h0, r0⟩ := trodAll_cons hA
  obtain ⟨v1, vs1, d1, ds1, p1, q1, rfl, rfl, rfl, h1, r1⟩ := trodAll_cons r0
  obtain ⟨v2, vs2, d2, ds2, p2, q2, rfl, rfl, rfl, h2, r2⟩ := trodAll_cons r1
  obtain ⟨v3, vs3, d3, ds3, p3, q3, rfl, rfl, rfl, h3, r3⟩ := trodAll_cons r2
  obtain ⟨rfl, rfl, rfl⟩ := trodAll_nil r3
  obtain rfl : args = #[v0, v1, v2, v3] := by cases args; simp_all
  obtain ⟨rfl, rfl⟩ := trodVars_none hV
  obtain ⟨a0, len0, cap0, rfl⟩ := okWide_slice Try.underlying22 (hval 0 22 v0 rfl rfl)
  have k0 := h0
  have lt0 : ∀ x ∈ p0, x.block < W.heap.size := by obtain ⟨m, hm⟩ := k0; exact DataW.trod_lt m _ _ _ hm
  obtain ⟨hm, I, U, L, hin⟩ : len0 ≤ maxLen ∧ ∃ I U L, In W W.heap.size a0 len0 I U L := by
    obtain ⟨fuel, hf⟩ := h0
    exact in_of hf
  obtain ⟨a1, rfl, rfl, rfl, w1⟩ := open_int Try.underlying3 (hval 1 3 v1 rfl rfl) h1
  obtain ⟨a2, rfl, rfl, rfl, w2⟩ := open_int Try.underlying3 (hval 2 3 v2 rfl rfl) h2
  have h3' := fun W' sp' => open_slot (W' := W') (sp' := sp') (hval 3 24 v3 rfl rfl) h3
  obtain ⟨oi, ou, ol, rfl, rfl, l0, l1, _⟩ := h3' W (fun _ => true)
  clear hA0 hval0
  refine (walk a0 len0 cap0 a1 a2 oi ou ol I U L W hm hin l0 l1).mono fun e W' ⟨he, bel⟩ => ?_
  subst he
  have s3 : DataW.Trod enc Try.prog W' 0 (fun b => decide (b < W.heap.size)) true 24 (sv oi ou ol) d3 [] := by
    obtain ⟨i, u, l, e, _, _, _, h⟩ := h3' W' (fun b => decide (b < W.heap.size))
    simp only [sv, Value.agg.injEq, Array.mk.injEq, List.cons.injEq, Value.bool.injEq, Value.int.injEq, and_true, true_and] at e
    obtain ⟨rfl, rfl, rfl⟩ := e
    exact h
  exact ⟨_, rfl, _, _, _, [], _, [], hW', trodAll_mk1 (shut_bool Try.underlying4 _), (trodAll_cons_mk (Below.trod laidOut (by kernel_rfl) (of_decide_eq_true (by kernel_rfl)) k0 bel lt0) (trodAll_cons_mk (shut_int Try.underlying3 w1) (trodAll_cons_mk (shut_int Try.underlying3 w2) (trodAll_cons_mk s3 trodAll_mk0)))), rfl, bel.frame _, fun h => by cases h⟩

theorem over : Rows.fnChokerRemoveOrderFreeRow.holds Try.pinned (OpenSpec.ofChange Rows.fnChokerRemoveOrderFreeSpec) :=
  OpenClaim.holds_of_wide 4 Try.f4 rfl rfl rfl rfl rfl rfl rfl ⟨rfl, rfl, rfl, rfl, rfl⟩ rfl rfl rfl rfl rfl (by kernel_rfl) Try.func4 (by kernel_rfl)
    (of_decide_eq_true (by kernel_rfl)) (by unfold Func.isWrapper; first | (rw [if_pos (by decide +kernel)]; kernel_rfl) | (rw [if_neg (by decide +kernel)]; exact ⟨rfl, rfl⟩))
    (fun os started H enc _ => lifted os started H enc)

theorem proved : Rows.FnChokerRemoveOrderFreeSaid := over
end Go.Proofs.Qxb6616745a.fnChokerRemoveOrderFree

namespace Go.Proofs.Qxb6616745a
theorem chokerRemoveOrderFree_proved : Rows.FnChokerRemoveOrderFreeSaid := fnChokerRemoveOrderFree.proved
end Go.Proofs.Qxb6616745a
