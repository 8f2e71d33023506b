/- Seat b6623423a: 'somewhere up to (s, i, d)': three loops in one another. -/
namespace Go.Proofs.Qxb6623423a.Seat

theorem ex_succ {p : Nat → Prop} (k : Nat) : (∃ j, j < k + 1 ∧ p j) ↔ (∃ j, j < k ∧ p j) ∨ p k := by
  constructor
  · rintro ⟨j, hj, hp⟩
    by_cases e : j = k
    · subst e; exact Or.inr hp
    · exact Or.inl ⟨j, by omega, hp⟩
  · rintro (⟨j, hj, hp⟩ | hp)
    · exact ⟨j, by omega, hp⟩
    · exact ⟨k, by omega, hp⟩

def Upto (n : Nat → Nat) (m : Nat → Nat → Nat) (p : Nat → Nat → Nat → Prop) (s i d : Nat) : Prop :=
  (∃ s', s' < s ∧ ∃ i', i' < n s' ∧ ∃ d', d' < m s' i' ∧ p s' i' d') ∨ (∃ i', i' < i ∧ ∃ d', d' < m s i' ∧ p s i' d') ∨ (∃ d', d' < d ∧ p s i d')

section
variable {n : Nat → Nat} {m : Nat → Nat → Nat} {p : Nat → Nat → Nat → Prop}

theorem upto_start : ¬ Upto n m p 0 0 0 := by
  rintro (⟨s, hs, _⟩ | ⟨i, hi, _⟩ | ⟨d, hd, _⟩) <;> omega

theorem upto_d (s i d : Nat) : Upto n m p s i (d + 1) ↔ Upto n m p s i d ∨ p s i d := by
  unfold Upto
  rw [ex_succ (p := fun d' => p s i d') d]
  constructor
  · rintro (h | h | h | h)
    · exact Or.inl (Or.inl h)
    · exact Or.inl (Or.inr (Or.inl h))
    · exact Or.inl (Or.inr (Or.inr h))
    · exact Or.inr h
  · rintro ((h | h | h) | h)
    · exact Or.inl h
    · exact Or.inr (Or.inl h)
    · exact Or.inr (Or.inr (Or.inl h))
    · exact Or.inr (Or.inr (Or.inr h))

theorem upto_row (s i : Nat) : Upto n m p s i (m s i) ↔ Upto n m p s (i + 1) 0 := by
  unfold Upto
  rw [ex_succ (p := fun i' => ∃ d', d' < m s i' ∧ p s i' d') i]
  constructor
  · rintro (h | h | h)
    · exact Or.inl h
    · exact Or.inr (Or.inl (Or.inl h))
    · exact Or.inr (Or.inl (Or.inr h))
  · rintro (h | (h | h) | ⟨d, hd, _⟩)
    · exact Or.inl h
    · exact Or.inr (Or.inl h)
    · exact Or.inr (Or.inr h)
    · omega

theorem upto_tab (s : Nat) : Upto n m p s (n s) 0 ↔ Upto n m p (s + 1) 0 0 := by
  unfold Upto
  rw [ex_succ (p := fun s' => ∃ i', i' < n s' ∧ ∃ d', d' < m s' i' ∧ p s' i' d') s]
  constructor
  · rintro (h | h | ⟨d, hd, _⟩)
    · exact Or.inl (Or.inl h)
    · exact Or.inl (Or.inr h)
    · omega
  · rintro ((h | h) | ⟨i, hi, _⟩ | ⟨d, hd, _⟩)
    · exact Or.inl h
    · exact Or.inr (Or.inl h)
    · omega
    · omega

theorem upto_all (s : Nat) : Upto n m p s 0 0 ↔ ∃ s', s' < s ∧ ∃ i', i' < n s' ∧ ∃ d', d' < m s' i' ∧ p s' i' d' := by
  unfold Upto
  constructor
  · rintro (h | ⟨i, hi, _⟩ | ⟨d, hd, _⟩)
    · exact h
    · omega
    · omega
  · exact Or.inl
end
end Go.Proofs.Qxb6623423a.Seat
