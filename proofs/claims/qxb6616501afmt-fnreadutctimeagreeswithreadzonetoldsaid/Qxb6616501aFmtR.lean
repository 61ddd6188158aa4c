import Derived.Test.Qxb6616501aFmtQ
namespace Go.Proofs.Qxb6616501aFmt

/-- 'number(2, ..)' whether an error stands already or not. -/
def numS (s : ByteArray) (p : Nat) (ok : Bool) : Int × Nat × Bool := if ok then numTo s p 2 else (0, p, false)

theorem numS_v (s : ByteArray) (p : Nat) (ok : Bool) : 0 ≤ (numS s p ok).1 ∧ (numS s p ok).1 ≤ 99 := by
  cases ok
  · simp [numS]
  · exact numTo_v s p 2 (by omega)
theorem numS_le (s : ByteArray) (p : Nat) (ok : Bool) (h : p ≤ s.size) : (numS s p ok).2.1 ≤ s.size := by
  cases ok
  · simpa [numS] using h
  · exact numTo_le s p h 2

/-- What holds behind a number: a text that is read so far, from place p0 on, n places; or an error stands and no digit is next. -/
def Read (s : ByteArray) (p0 n : Nat) (q : Nat) (ok : Bool) : Prop :=
  (ok = true ∧ q = p0 + n ∧ ∀ j, j < n → dig s (p0 + j) = true) ∨ (ok = false ∧ dig s q = false ∧ ∃ j, j < n ∧ dig s (p0 + j) = false)

theorem Read.start (s : ByteArray) (p0 : Nat) : Read s p0 0 p0 true := .inl ⟨rfl, rfl, fun j h => by omega⟩

theorem Read.step {s : ByteArray} {p0 n q : Nat} {ok : Bool} (h : Read s p0 n q ok) {v : Int} {q' : Nat} {ok' : Bool} (e : numS s q ok = (v, q', ok')) :
    Read s p0 (n + 2) q' ok' ∧ (ok' = true → v = two s (p0 + n)) := by
  rcases h with ⟨rfl, rfl, hd⟩ | ⟨rfl, h1, j, hj, hd⟩
  · simp only [numS, if_true] at e
    rcases num2_cases s (p0 + n) with ⟨a, k⟩ | ⟨a, b, k⟩ | ⟨a, b, k⟩
    · rw [k] at e
      simp only [Prod.mk.injEq] at e
      obtain ⟨rfl, rfl, rfl⟩ := e
      exact ⟨.inr ⟨rfl, a, n, by omega, a⟩, by simp⟩
    · rw [k] at e
      simp only [Prod.mk.injEq] at e
      obtain ⟨rfl, rfl, rfl⟩ := e
      exact ⟨.inr ⟨rfl, b, n + 1, by omega, by rw [← Nat.add_assoc]; exact b⟩, by simp⟩
    · rw [k] at e
      simp only [Prod.mk.injEq] at e
      obtain ⟨rfl, rfl, rfl⟩ := e
      refine ⟨.inl ⟨rfl, by omega, fun j hj => ?_⟩, fun _ => rfl⟩
      by_cases h1 : j < n
      · exact hd j h1
      · by_cases h2 : j = n
        · subst h2; exact a
        · obtain rfl : j = n + 1 := by omega
          rw [← Nat.add_assoc]; exact b
  · simp [numS] at e
    obtain ⟨rfl, rfl, rfl⟩ := e
    exact ⟨.inr ⟨rfl, h1, j, by omega, hd⟩, by simp⟩

/-- The run of digits at place p, n at the most. -/
def run (s : ByteArray) (p : Nat) : Nat → Nat
  | 0 => 0
  | n + 1 => if run s p n = n then (if dig s (p + n) then n + 1 else n) else run s p n

theorem run_spec (s : ByteArray) (p : Nat) : ∀ n, run s p n ≤ n ∧ (∀ j, j < run s p n → dig s (p + j) = true) ∧ (run s p n < n → dig s (p + run s p n) = false)
  | 0 => ⟨Nat.le_refl _, fun j h => by simp [run] at h, fun h => by simp [run] at h⟩
  | n + 1 => by
    obtain ⟨h1, h2, h3⟩ := run_spec s p n
    unfold run
    by_cases e : run s p n = n
    · rw [if_pos e]
      cases hd : dig s (p + n)
      · simp only [Bool.false_eq_true, if_false]
        exact ⟨by omega, fun j hj => h2 j (by omega), fun _ => hd⟩
      · simp only [if_true]
        refine ⟨by omega, fun j hj => ?_, fun h => by omega⟩
        by_cases hj' : j < n
        · exact h2 j (by omega)
        · obtain rfl : j = n := by omega
          exact hd
    · rw [if_neg e]
      exact ⟨by omega, h2, fun _ => h3 (by omega)⟩

theorem zoneR_digit {s : ByteArray} {due : Bool} {p : Nat} (z0 o0 : Int) (h : dig s p = true) : zoneR s due p z0 o0 = (z0, o0, p, false) := by
  obtain ⟨_, a, b⟩ := dig_true.1 h
  unfold zoneR
  rw [if_neg (by omega), if_neg (by omega), if_neg (by omega)]

end Go.Proofs.Qxb6616501aFmt
