/- The plain functions of the stemmer's laws: no Go in sight. -/
namespace Go.Proofs.Qxb6000751a.Por

/-- Is the letter one of a, e, i, o, u? -/
def vowel (c : Int) : Bool := c == 97 || (c == 101 || (c == 105 || (c == 111 || c == 117)))

/-- Is the letter at place i a consonant? -/
def cons (bs : List Int) : Nat → Bool
  | 0 => !vowel (bs.getD 0 0)
  | i + 1 => if vowel (bs.getD (i + 1) 0) then false else if bs.getD (i + 1) 0 == 121 then !cons bs i else true

/-- How many places below k are a consonant behind a vowel? -/
def turns (bs : List Int) : Nat → Nat
  | 0 => 0
  | 1 => 0
  | k + 2 => turns bs (k + 1) + if cons bs k = false ∧ cons bs (k + 1) = true then 1 else 0

theorem turns_le (bs : List Int) : ∀ k, 2 * turns bs (k + 1) ≤ k + 1 ∧ (cons bs k = false → 2 * turns bs (k + 1) ≤ k)
  | 0 => ⟨by simp [turns], fun _ => by simp [turns]⟩
  | k + 1 => by
    obtain ⟨h1, h2⟩ := turns_le bs k
    rw [turns]
    by_cases c1 : cons bs k = false ∧ cons bs (k + 1) = true
    · have := h2 c1.1
      rw [if_pos c1]
      refine ⟨by omega, fun c => ?_⟩
      rw [c1.2] at c; cases c
    · rw [if_neg c1]
      exact ⟨by omega, fun _ => by omega⟩

theorem turns_half (bs : List Int) (n : Nat) : 2 * turns bs n ≤ n := by
  cases n with
  | zero => simp [turns]
  | succ n => exact (turns_le bs n).1

theorem turns_same (bs : List Int) (k : Nat) (h : k = 0 ∨ cons bs (k - 1) = true ∨ cons bs k = false) : turns bs (k + 1) = turns bs k := by
  cases k with
  | zero => rfl
  | succ k =>
    rw [turns]
    rw [if_neg]
    · rfl
    · rintro ⟨a, b⟩
      rcases h with h | h | h
      · omega
      · rw [Nat.add_sub_cancel] at h; rw [a] at h; cases h
      · rw [b] at h; cases h

theorem turns_step (bs : List Int) (k : Nat) (h0 : 0 < k) (h1 : cons bs (k - 1) = false) (h2 : cons bs k = true) : turns bs (k + 1) = turns bs k + 1 := by
  cases k with
  | zero => omega
  | succ k =>
    rw [turns, if_pos ⟨by simpa using h1, h2⟩]

end Go.Proofs.Qxb6000751a.Por
