import Derived.WalkKit
namespace Go.Proofs.Qxb6616501aFmt

/-- A decimal digit stands at place p. -/
def dig (s : ByteArray) (p : Nat) : Bool := if h : p < s.size then decide (48 ≤ s[p].toNat) && decide (s[p].toNat ≤ 57) else false
/-- The byte at place p; 0 behind the end. -/
def byt (s : ByteArray) (p : Nat) : Int := if h : p < s.size then (s[p].toNat : Int) else 0
/-- The digit's number. -/
def dv (s : ByteArray) (p : Nat) : Int := byt s p - 48

theorem dig_out {s : ByteArray} {p : Nat} (h : s.size ≤ p) : dig s p = false := by simp [dig, Nat.not_lt.2 h]
theorem dig_in {s : ByteArray} {p : Nat} (h : p < s.size) : dig s p = (decide (48 ≤ byt s p) && decide (byt s p ≤ 57)) := by
  simp only [dig, byt, h, dite_true]
  congr 1
  · exact decide_eq_decide.2 (by omega)
  · exact decide_eq_decide.2 (by omega)
theorem dig_true {s : ByteArray} {p : Nat} : dig s p = true ↔ p < s.size ∧ 48 ≤ byt s p ∧ byt s p ≤ 57 := by
  by_cases h : p < s.size
  · rw [dig_in h]; simp [h]
  · rw [dig_out (Nat.not_lt.1 h)]; simp [h]
theorem byt_in {s : ByteArray} {p : Nat} (h : p < s.size) : byt s p = (s[p].toNat : Int) := by simp [byt, h]
theorem byt_bd (s : ByteArray) (p : Nat) : 0 ≤ byt s p ∧ byt s p ≤ 255 := by
  unfold byt; split
  · rename_i h; have := s[p].toNat_lt; omega
  · omega

/-- 'number(n, ..)' after k rounds: the number, the place, whether all were digits. -/
def numTo (s : ByteArray) (p : Nat) : Nat → Int × Nat × Bool
  | 0 => (0, p, true)
  | k + 1 => match numTo s p k with
    | (v, q, true) => if dig s q then (v * 10 + dv s q, q + 1, true) else (v, q, false)
    | r => r

theorem numTo_bd (s : ByteArray) (p : Nat) : 0 ≤ (numTo s p 1).1 ∧ (numTo s p 1).1 ≤ 9 ∧ 0 ≤ (numTo s p 2).1 ∧ (numTo s p 2).1 ≤ 99 := by
  by_cases h0 : dig s p = true
  · have a := dig_true.1 h0
    by_cases h1 : dig s (p + 1) = true
    · have b := dig_true.1 h1
      simp [numTo, h0, h1, dv]; omega
    · simp [numTo, h0, h1, dv]; omega
  · simp [numTo, h0]

/-- Two digits, one, none. -/
theorem num2_two {s : ByteArray} {p : Nat} (h0 : dig s p = true) (h1 : dig s (p + 1) = true) : numTo s p 2 = (dv s p * 10 + dv s (p + 1), p + 2, true) := by simp [numTo, h0, h1]
theorem num2_one {s : ByteArray} {p : Nat} (h0 : dig s p = true) (h1 : dig s (p + 1) = false) : numTo s p 2 = (dv s p, p + 1, false) := by simp [numTo, h0, h1]
theorem num2_none {s : ByteArray} {p : Nat} (h0 : dig s p = false) : numTo s p 2 = (0, p, false) := by simp [numTo, h0]

theorem numTo_le (s : ByteArray) (p : Nat) (h : p ≤ s.size) : ∀ k, (numTo s p k).2.1 ≤ s.size
  | 0 => h
  | k + 1 => by
    have ih := numTo_le s p h k
    revert ih
    rw [numTo]
    obtain ⟨v, q, ok⟩ := numTo s p k
    cases ok
    · exact fun ih => ih
    · intro ih
      by_cases hd : dig s q = true
      · have := dig_true.1 hd; simp [hd]; omega
      · simp [hd]; exact ih
theorem numTo_step {s : ByteArray} {p k : Nat} {v : Int} {q : Nat} (h : numTo s p k = (v, q, true)) (hd : dig s q = true) : numTo s p (k + 1) = (v * 10 + dv s q, q + 1, true) := by simp [numTo, h, hd]
theorem numTo_fail {s : ByteArray} {p k : Nat} {v : Int} {q : Nat} (h : numTo s p k = (v, q, true)) (hd : dig s q = false) : numTo s p (k + 1) = (v, q, false) := by simp [numTo, h, hd]
theorem numTo_stay {s : ByteArray} {p k : Nat} {v : Int} {q : Nat} (h : numTo s p k = (v, q, false)) : numTo s p (k + 1) = (v, q, false) := by simp [numTo, h]
theorem numTo_two {s : ByteArray} {p k : Nat} {v : Int} {q : Nat} (h : numTo s p k = (v, q, false)) (hk : k ≤ 2) : numTo s p 2 = (v, q, false) := by
  match k, hk with
  | 0, _ => simp [numTo] at h
  | 1, _ => exact numTo_stay h
  | 2, _ => exact h
theorem numTo_v (s : ByteArray) (p k : Nat) (hk : k ≤ 2) : 0 ≤ (numTo s p k).1 ∧ (numTo s p k).1 ≤ 99 := by
  have := numTo_bd s p
  match k, hk with
  | 0, _ => simp [numTo]
  | 1, _ => omega
  | 2, _ => omega

theorem num2_stop {s : ByteArray} {p : Nat} {v : Int} {q : Nat} (h : numTo s p 2 = (v, q, false)) : dig s q = false := by
  cases h0 : dig s p
  · rw [num2_none h0] at h; simp at h; obtain ⟨_, rfl⟩ := h; exact h0
  · cases h1 : dig s (p + 1)
    · rw [num2_one h0 h1] at h; simp at h; obtain ⟨_, rfl⟩ := h; exact h1
    · rw [num2_two h0 h1] at h; simp at h

/-- The minutes of the offset. -/
def mins (s : ByteArray) (due : Bool) (q : Nat) : Int × Nat × Bool := if due || dig s q then numTo s q 2 else (0, q, true)
/-- Hours and minutes behind the sign: hours, minutes, the place, whether all that was due stood there. -/
def hm (s : ByteArray) (due : Bool) (p : Nat) : Int × Int × Nat × Bool :=
  match numTo s p 2 with
  | (h, q, true) => (h, (mins s due q).1, (mins s due q).2.1, (mins s due q).2.2)
  | (h, q, false) => (h, 0, q, false)
/-- What readZone leaves: the zone, the offset, the place, whether there was no error. -/
def zoneR (s : ByteArray) (due : Bool) (p : Nat) (z0 o0 : Int) : Int × Int × Nat × Bool :=
  if byt s p = 90 then (90, o0, p + 1, true)
  else if byt s p = 43 then (43, (hm s due (p + 1)).1 * 60 + (hm s due (p + 1)).2.1, (hm s due (p + 1)).2.2.1, (hm s due (p + 1)).2.2.2 && decide ((hm s due (p + 1)).1 ≤ 23) && decide ((hm s due (p + 1)).2.1 ≤ 59))
  else if byt s p = 45 then (45, -((hm s due (p + 1)).1 * 60 + (hm s due (p + 1)).2.1), (hm s due (p + 1)).2.2.1, (hm s due (p + 1)).2.2.2 && decide ((hm s due (p + 1)).1 ≤ 23) && decide ((hm s due (p + 1)).2.1 ≤ 59))
  else (z0, o0, p, false)

end Go.Proofs.Qxb6616501aFmt
