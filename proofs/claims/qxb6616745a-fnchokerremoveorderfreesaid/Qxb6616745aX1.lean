import Derived.Test.Qxb6616745aV3
import Derived.Deep.Slices
import Derived.Lib.SmallJoins
import Derived.OpenShut
import Derived.KernelRfl
namespace Go.Proofs.Qxb6616745a
open Go.ChangeShapes Go.WideShapes Go.RowKit

theorem cells24 : Try.prog.cellsOf 24 = 3 := by kernel_rfl
theorem one24 : Deep.oneCellFields Try.prog #[{ name := "Interested", type := 4, offset := 0, embedded := false, tag := "", pkgPath := "", byteOffset := 0 }, { name := "Unchoked", type := 4, offset := 1, embedded := false, tag := "", pkgPath := "", byteOffset := 1 }, { name := "Last", type := 2, offset := 2, embedded := false, tag := "", pkgPath := "", byteOffset := 8 }] = true := by kernel_rfl
theorem cells4 : Try.prog.cellsOf 4 = 1 := by kernel_rfl
theorem cells2 : Try.prog.cellsOf 2 = 1 := by kernel_rfl

theorem bounds_i64 {n : Int} (h : (Lit.int .i64 n).wf = true) : -9223372036854775808 ≤ n ∧ n ≤ 9223372036854775807 := by
  simp [Lit.wf, IntKind.min, IntKind.max, IntKind.signed, IntKind.bits] at h
  omega
theorem block_of_cell {w : World} {a : Addr} {v : Value} (h : w.cell? a = some v) : a.block < w.heap.size := by
  rcases Nat.lt_or_ge a.block w.heap.size with h1 | h1
  · exact h1
  · rw [World.cell?, Array.getElem?_eq_none h1] at h; cases h

section
variable {H : Type} {enc : TypeId × Value → H}

theorem in_of {W : World} {base : Nat} {sp : Nat → Bool} {held : Bool} {fuel : Nat} {a0 : Option Addr} {n cap : Nat} {x : DataW H × List MemPlace} (h : DataW.trod enc Try.prog W base sp held fuel 22 [.slice a0 n cap] = some x) :
    n ≤ maxLen ∧ ∃ I U L, In W W.heap.size a0 n I U L := by
  rcases Deep.open_slice Try.underlying22 h with ⟨h0, _⟩ | ⟨a, len, c, m, k, D, Pl, hcs, hb, hl, hm, hmm, _, hx⟩
  · simp at h0
    obtain ⟨_, rfl, _⟩ := h0
    exact ⟨Nat.zero_le _, fun _ => false, fun _ => false, fun _ => 0, fun i hi => by omega⟩
  · simp at hcs
    obtain ⟨rfl, rfl, rfl⟩ := hcs
    have hlm : n ≤ m := by rw [hmm]; split <;> omega
    have each : ∀ i, i < n → ∃ q : Bool × Bool × Int, W.cell? (a.add (i * 3)) = some (.bool q.1) ∧ W.cell? ⟨(a.add (i * 3)).block, (a.add (i * 3)).off + 1, none⟩ = some (.bool q.2.1) ∧ W.cell? ⟨(a.add (i * 3)).block, (a.add (i * 3)).off + 2, none⟩ = some (.int .i64 q.2.2) ∧ -9223372036854775808 ≤ q.2.2 ∧ q.2.2 ≤ 9223372036854775807 := by
      intro i hi
      obtain ⟨cs', h1, h2⟩ := hx i (by omega)
      rw [cells24] at h1
      obtain ⟨_, hlen, hcell⟩ := World.cells?_some h1
      obtain ⟨y0, y1, y2, k, hxy, _, u0, u1, u2⟩ := Deep.trod_struct3 Try.underlying24 h2
      match cs', hlen with
      | [v0, v1, v2], _ =>
        simp only [cells4, cells2, List.drop, List.take] at u0 u1 u2
        obtain ⟨s, e0, d0⟩ := DataW.trod_bool Try.underlying4 u0
        obtain ⟨q, e1, d1⟩ := DataW.trod_bool Try.underlying4 u1
        obtain ⟨l, e2, d2, hw⟩ := DataW.trod_int Try.underlying2 u2
        simp only [List.cons.injEq, and_true] at e0 e1 e2
        subst e0; subst e1; subst e2
        have c0 := hcell 0 (by omega)
        have c1 := hcell 1 (by omega)
        have c2 := hcell 2 (by omega)
        exact ⟨(s, q, l), by simpa [Addr.add] using c0, by simpa [Addr.add] using c1, by simpa [Addr.add] using c2, (bounds_i64 hw).1, (bounds_i64 hw).2⟩
    obtain ⟨q, hq⟩ := Deep.choose_lt each
    exact ⟨Nat.le_trans hl hm, fun i => (q i).1, fun i => (q i).2.1, fun i => (q i).2.2, fun i hi => ⟨a, rfl, by have := block_of_cell (hq i hi).1; rwa [add_block] at this, (hq i hi).1, (hq i hi).2.1, (hq i hi).2.2.1, (hq i hi).2.2.2⟩⟩

theorem open_slot {W W' : World} {base : Nat} {sp sp' : Nat → Bool} {held : Bool} {r : Reach} {b0 : Nat} {v : Value} {d : DataW H} {p : List MemPlace} (hv : Value.okWide Try.prog W r b0 24 v) (h : DataW.Trod enc Try.prog W base sp held 24 v d p) :
    ∃ i u l, v = sv i u l ∧ p = [] ∧ -9223372036854775808 ≤ l ∧ l ≤ 9223372036854775807 ∧ DataW.Trod enc Try.prog W' base sp' held 24 (sv i u l) d [] := by
  obtain ⟨v0, v1, v2, y0, y1, y2, n, rfl, rfl, rfl, u0, u1, u2⟩ := Joins.open_agg3 Try.underlying24 one24 cells24 hv h
  obtain ⟨s, e0, rfl⟩ := DataW.trod_bool Try.underlying4 u0
  obtain ⟨q, e1, rfl⟩ := DataW.trod_bool Try.underlying4 u1
  obtain ⟨l, e2, rfl, hw⟩ := DataW.trod_int Try.underlying2 u2
  simp only [List.cons.injEq, and_true] at e0 e1 e2
  subst e0; subst e1; subst e2
  refine ⟨s, q, l, rfl, rfl, (bounds_i64 hw).1, (bounds_i64 hw).2, ?_⟩
  exact Joins.shut_agg3 (y0 := (.lit (.bool s), [])) (y1 := (.lit (.bool q), [])) (y2 := (.lit (.int .i64 l), [])) Try.underlying24 one24 cells24 (shut_bool Try.underlying4 s) (shut_bool Try.underlying4 q) (shut_int Try.underlying2 hw)
end
end Go.Proofs.Qxb6616745a
