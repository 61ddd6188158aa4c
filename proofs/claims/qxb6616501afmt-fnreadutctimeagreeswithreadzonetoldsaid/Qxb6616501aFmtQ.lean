import Derived.Test.Qxb6616501aFmtP
namespace Go.Proofs.Qxb6616501aFmt

theorem dv_bd {s : ByteArray} {p : Nat} (h : dig s p = true) : 0 ≤ dv s p ∧ dv s p ≤ 9 := by
  have := dig_true.1 h; unfold dv; omega

/-- Two texts that part at place p alone. -/
def Alike (s t : ByteArray) (p : Nat) : Prop := t.size = s.size ∧ ∀ i, i ≠ p → byt t i = byt s i

theorem Alike.dig {s t : ByteArray} {p : Nat} (h : Alike s t p) {i : Nat} (hi : p < i) : dig t i = dig s i := by
  rw [Bool.eq_iff_iff, dig_true, dig_true, h.1, h.2 i (by omega)]
theorem Alike.dv {s t : ByteArray} {p : Nat} (h : Alike s t p) {i : Nat} (hi : p < i) : dv t i = dv s i := by
  unfold Go.Proofs.Qxb6616501aFmt.dv; rw [h.2 i (by omega)]

theorem num2_cases (s : ByteArray) (p : Nat) : (dig s p = false ∧ numTo s p 2 = (0, p, false)) ∨ (dig s p = true ∧ dig s (p + 1) = false ∧ numTo s p 2 = (dv s p, p + 1, false)) ∨
    (dig s p = true ∧ dig s (p + 1) = true ∧ numTo s p 2 = (dv s p * 10 + dv s (p + 1), p + 2, true)) := by
  cases h0 : dig s p
  · exact .inl ⟨rfl, num2_none h0⟩
  · cases h1 : dig s (p + 1)
    · exact .inr (.inl ⟨rfl, rfl, num2_one h0 h1⟩)
    · exact .inr (.inr ⟨rfl, rfl, num2_two h0 h1⟩)

theorem Alike.num {s t : ByteArray} {p : Nat} (h : Alike s t p) {q : Nat} (hq : p < q) : numTo t q 2 = numTo s q 2 := by
  rcases num2_cases s q with ⟨a, e⟩ | ⟨a, b, e⟩ | ⟨a, b, e⟩
  · rw [e, num2_none (by rw [h.dig hq]; exact a)]
  · rw [e, num2_one (by rw [h.dig hq]; exact a) (by rw [h.dig (by omega)]; exact b), h.dv hq]
  · rw [e, num2_two (by rw [h.dig hq]; exact a) (by rw [h.dig (by omega)]; exact b), h.dv hq, h.dv (by omega)]

theorem num2_ge (s : ByteArray) (p : Nat) : p ≤ (numTo s p 2).2.1 := by
  rcases num2_cases s p with ⟨_, e⟩ | ⟨_, _, e⟩ | ⟨_, _, e⟩ <;> rw [e] <;> simp

theorem Alike.hm {s t : ByteArray} {p : Nat} (h : Alike s t p) (due : Bool) {q : Nat} (hq : p < q) : hm t due q = hm s due q := by
  unfold Go.Proofs.Qxb6616501aFmt.hm
  rw [h.num hq]
  have hge := num2_ge s q
  generalize numTo s q 2 = r at *
  obtain ⟨a, b, c⟩ := r
  dsimp only at hge
  have hm' : mins t due b = mins s due b := by unfold mins; rw [h.dig (by omega), h.num (by omega)]
  cases c
  · rfl
  · simp only [hm']

theorem zoneR_flip {s t : ByteArray} {p : Nat} (due : Bool) (z0 o0 : Int) (h : Alike s t p) {c c' : Int} (hc : byt s p = c) (hc' : byt t p = c') (hs : (c = 43 ∧ c' = 45) ∨ (c = 45 ∧ c' = 43)) :
    zoneR s due p z0 o0 = (c, (zoneR s due p z0 o0).2.1, (zoneR s due p z0 o0).2.2.1, (zoneR s due p z0 o0).2.2.2) ∧
    zoneR t due p z0 o0 = (c', -(zoneR s due p z0 o0).2.1, (zoneR s due p z0 o0).2.2.1, (zoneR s due p z0 o0).2.2.2) := by
  rcases hs with ⟨rfl, rfl⟩ | ⟨rfl, rfl⟩
  · unfold zoneR; rw [h.hm due (Nat.lt_succ_self p)]; simp [hc, hc']
  · unfold zoneR; rw [h.hm due (Nat.lt_succ_self p)]; simp [hc, hc']

/-- The number at two places. -/
def two (s : ByteArray) (i : Nat) : Int := dv s i * 10 + dv s (i + 1)
theorem two_bd {s : ByteArray} {i : Nat} (h0 : dig s i = true) (h1 : dig s (i + 1) = true) : 0 ≤ two s i ∧ two s i ≤ 99 := by
  have := dv_bd h0; have := dv_bd h1; unfold two; omega

/-- What an accepted reading behind a sign has read. -/
theorem hm_ok {s : ByteArray} {due : Bool} {p : Nat} {h m : Int} {q : Nat} (e : hm s due p = (h, m, q, true)) :
    dig s p = true ∧ dig s (p + 1) = true ∧ h = two s p ∧
    ((q = p + 2 ∧ m = 0 ∧ due = false ∧ dig s (p + 2) = false) ∨ (q = p + 4 ∧ dig s (p + 2) = true ∧ dig s (p + 3) = true ∧ m = two s (p + 2))) := by
  unfold hm at e
  rcases num2_cases s p with ⟨a, k⟩ | ⟨a, b, k⟩ | ⟨a, b, k⟩
  · rw [k] at e; simp at e
  · rw [k] at e; simp at e
  · rw [k] at e
    simp only [Prod.mk.injEq] at e
    obtain ⟨rfl, e1, e2, e3⟩ := e
    refine ⟨a, b, rfl, ?_⟩
    unfold mins at e1 e2 e3
    by_cases hd : (due || dig s (p + 2)) = true
    · rw [if_pos hd] at e1 e2 e3
      right
      rcases num2_cases s (p + 2) with ⟨a', k'⟩ | ⟨a', b', k'⟩ | ⟨a', b', k'⟩
      · rw [k'] at e3; simp at e3
      · rw [k'] at e3; simp at e3
      · rw [k'] at e1 e2
        exact ⟨e2.symm, a', b', e1.symm⟩
    · rw [if_neg hd] at e1 e2 e3
      left
      simp at hd
      exact ⟨e2.symm, e1.symm, hd.1, hd.2⟩

theorem hm_bd (s : ByteArray) (due : Bool) (p : Nat) : 0 ≤ (hm s due p).1 ∧ (hm s due p).1 ≤ 99 ∧ 0 ≤ (hm s due p).2.1 ∧ (hm s due p).2.1 ≤ 99 := by
  unfold hm
  have h1 := numTo_v s p 2 (by omega)
  generalize numTo s p 2 = r at *
  obtain ⟨a, b, c⟩ := r
  dsimp only at h1
  cases c
  · simp; omega
  · have h2 := numTo_v s b 2 (by omega)
    unfold mins
    by_cases hd : (due || dig s b) = true
    · simp only [hd, if_true]; omega
    · simp only [hd]; simp; omega

theorem zoneR_off_bd {s : ByteArray} {due : Bool} {p : Nat} (z0 o0 : Int) (hc : byt s p = 43 ∨ byt s p = 45) : -6039 ≤ (zoneR s due p z0 o0).2.1 ∧ (zoneR s due p z0 o0).2.1 ≤ 6039 := by
  have := hm_bd s due (p + 1)
  unfold zoneR
  rcases hc with h | h
  · simp [h]; omega
  · simp [h]; omega

/-- What an accepted zone with a sign has read. -/
theorem zoneR_ok {s : ByteArray} {due : Bool} {p : Nat} {z0 o0 z o : Int} {q : Nat} (e : zoneR s due p z0 o0 = (z, o, q, true)) (hc : byt s p = 43 ∨ byt s p = 45) :
    dig s (p + 1) = true ∧ dig s (p + 2) = true ∧ two s (p + 1) ≤ 23 ∧
    ((q = p + 3 ∧ due = false ∧ dig s (p + 3) = false ∧ o = if byt s p = 45 then -(two s (p + 1) * 60) else two s (p + 1) * 60) ∨
     (q = p + 5 ∧ dig s (p + 3) = true ∧ dig s (p + 4) = true ∧ two s (p + 3) ≤ 59 ∧ o = if byt s p = 45 then -(two s (p + 1) * 60 + two s (p + 3)) else two s (p + 1) * 60 + two s (p + 3))) := by
  have key : ∃ h m q' ok, hm s due (p + 1) = (h, m, q', ok) ∧ q' = q ∧ (ok && decide (h ≤ 23) && decide (m ≤ 59)) = true ∧ o = if byt s p = 45 then -(h * 60 + m) else h * 60 + m := by
    refine ⟨_, _, _, _, rfl, ?_⟩
    unfold zoneR at e
    rcases hc with h | h
    · simp only [h] at e ⊢
      simp only [Prod.mk.injEq, Int.reduceEq, if_false, if_true] at e ⊢
      exact ⟨e.2.2.1, e.2.2.2, e.2.1.symm⟩
    · simp only [h] at e ⊢
      simp only [Prod.mk.injEq, Int.reduceEq, if_false, if_true] at e ⊢
      exact ⟨e.2.2.1, e.2.2.2, e.2.1.symm⟩
  obtain ⟨h, m, q', ok, k1, rfl, k2, k3⟩ := key
  simp at k2
  obtain ⟨⟨rfl, k4⟩, k5⟩ := k2
  obtain ⟨d1, d2, rfl, k6⟩ := hm_ok k1
  refine ⟨d1, d2, k4, ?_⟩
  rcases k6 with ⟨rfl, rfl, rfl, d3⟩ | ⟨rfl, d3, d4, rfl⟩
  · left; exact ⟨rfl, rfl, d3, by simpa using k3⟩
  · right; exact ⟨rfl, d3, d4, k5, k3⟩

theorem len_eq (t : ByteArray) : t.data.toList.length = t.size := by rw [Array.length_toList]; rfl
theorem byt_eq (s : ByteArray) (p : Nat) : byt s p = ((s.data.toList[p]?).map (fun b => (b.toNat : Int))).getD 0 := by
  unfold byt
  by_cases h : p < s.size
  · simp [h, ByteArray.getElem_eq_getElem_data]
  · simp [h]
theorem flip_list (s : ByteArray) (p : Nat) (c : UInt8) : (s.extract 0 p ++ ⟨#[c]⟩ ++ s.extract (p + 1) s.size).data.toList = s.data.toList.take p ++ c :: s.data.toList.drop (p + 1) := by
  simp [ByteArray.data_append, ByteArray.data_extract]
  rw [List.take_of_length_le (by simp)]
theorem flip_alike (s : ByteArray) (p : Nat) (c : UInt8) (hp : p < s.size) : Alike s (s.extract 0 p ++ ⟨#[c]⟩ ++ s.extract (p + 1) s.size) p ∧ byt (s.extract 0 p ++ ⟨#[c]⟩ ++ s.extract (p + 1) s.size) p = (c.toNat : Int) := by
  have hl := flip_list s p c
  have hlen : s.data.toList.length = s.size := by simp
  have hsz : (s.extract 0 p ++ ⟨#[c]⟩ ++ s.extract (p + 1) s.size).size = s.size := by
    have := congrArg List.length hl
    simp only [List.length_append, List.length_cons, List.length_take, List.length_drop, hlen] at this
    have e := len_eq (s.extract 0 p ++ ⟨#[c]⟩ ++ s.extract (p + 1) s.size)
    omega
  have hb : ∀ i, byt (s.extract 0 p ++ ⟨#[c]⟩ ++ s.extract (p + 1) s.size) i = (((s.data.toList.take p ++ c :: s.data.toList.drop (p + 1))[i]?).map (fun b => (b.toNat : Int))).getD 0 := by
    intro i; rw [byt_eq, hl]
  have htk : (s.data.toList.take p).length = p := by rw [List.length_take, hlen]; omega
  refine ⟨⟨hsz, fun i hi => ?_⟩, ?_⟩
  · rw [hb i, byt_eq s i]
    congr 2
    rcases Nat.lt_or_gt_of_ne hi with h | h
    · rw [List.getElem?_append_left (by omega), List.getElem?_take]; simp [h]
    · rw [List.getElem?_append_right (by omega), htk]
      obtain ⟨k, rfl⟩ : ∃ k, i = p + 1 + k := ⟨i - p - 1, by omega⟩
      rw [show p + 1 + k - p = k + 1 by omega, List.getElem?_cons_succ, List.getElem?_drop]
  · rw [hb p, List.getElem?_append_right (by omega), htk]
    simp

end Go.Proofs.Qxb6616501aFmt
