/- Seat b6623403a: where each scope begins in the joined text: no Go in sight. -/
import Derived.Test.Qxb6623403aSeatPlain
namespace Go.Proofs.Qxb6623403a.Seat
open Go.Lib

/-- Where scope k begins. -/
def pos (S : Nat → ByteArray) : Nat → Nat
  | 0 => 0
  | k + 1 => pos S k + (S k).size + 1

theorem pos_mono (S : Nat → ByteArray) (k : Nat) : ∀ n, k ≤ n → pos S k ≤ pos S n := by
  intro n h
  induction n with
  | zero => have : k = 0 := by omega
            subst this; exact Nat.le_refl _
  | succ n ih =>
    by_cases hk : k = n + 1
    · subst hk; exact Nat.le_refl _
    · have := ih (by omega); simp only [pos]; omega

theorem len_pos (S : Nat → ByteArray) (n : Nat) : (joined S (n + 1)).length + 1 = pos S (n + 1) := by
  induction n with
  | zero =>
    rw [joined_one]
    have : (S 0).data.toList.length = (S 0).size := rfl
    simp only [pos, this]; omega
  | succ n ih =>
    rw [joined_succ _ _ (by omega)]
    have : (S (n + 1)).data.toList.length = (S (n + 1)).size := rfl
    simp only [List.length_append, List.length_cons, List.length_nil, this]
    rw [show pos S (n + 1 + 1) = pos S (n + 1) + (S (n + 1)).size + 1 from rfl]
    omega

theorem at_scope (S : Nat → ByteArray) (n : Nat) : ∀ k t, k < n + 1 → t < (S k).size → (joined S (n + 1))[pos S k + t]? = (S k).data.toList[t]? := by
  induction n with
  | zero =>
    intro k t hk ht
    have : k = 0 := by omega
    subst this
    rw [joined_one]
    simp [pos]
  | succ n ih =>
    intro k t hk ht
    have hl := len_pos S n
    rw [joined_succ _ _ (by omega)]
    by_cases hkn : k < n + 1
    · have h1 := pos_mono S (k + 1) (n + 1) (by omega)
      simp only [pos] at h1 hl
      rw [List.append_assoc, List.getElem?_append_left (by omega)]
      exact ih k t hkn ht
    · have : k = n + 1 := by omega
      subst this
      rw [List.getElem?_append_right (by simp only [List.length_append, List.length_cons, List.length_nil]; omega)]
      simp only [List.length_append, List.length_cons, List.length_nil]
      rw [show pos S (n + 1) + t - ((joined S (n + 1)).length + (0 + 1)) = t by omega]

theorem at_blank (S : Nat → ByteArray) (n : Nat) : ∀ k, k < n → (joined S (n + 1))[pos S k + (S k).size]? = some 32 := by
  induction n with
  | zero => intro k hk; omega
  | succ n ih =>
    intro k hk
    have hl := len_pos S n
    rw [joined_succ _ _ (by omega)]
    by_cases hkn : k < n
    · have h1 := pos_mono S (k + 1) n (by omega)
      have h2 : pos S (n + 1) = pos S n + (S n).size + 1 := rfl
      have h3 : pos S (k + 1) = pos S k + (S k).size + 1 := rfl
      rw [List.append_assoc, List.getElem?_append_left (by omega)]
      exact ih k hkn
    · have : k = n := by omega
      subst this
      have h2 : pos S (k + 1) = pos S k + (S k).size + 1 := rfl
      rw [List.append_assoc, List.getElem?_append_right (by omega)]
      rw [show pos S k + (S k).size - (joined S (k + 1)).length = 0 by omega]
      rfl

/-- The joined text as a string. -/
def text (S : Nat → ByteArray) (n : Nat) : ByteArray := ⟨(joined S n).toArray⟩

theorem text_size (S : Nat → ByteArray) (n : Nat) : (text S (n + 1)).size + 1 = pos S (n + 1) := by
  rw [← len_pos]
  rfl

theorem text_get? (S : Nat → ByteArray) (n i : Nat) (h : i < (text S n).size) : (joined S n)[i]? = some ((text S n)[i]'h) := by
  have e : (joined S n)[i]? = (text S n).data[i]? := by simp [text]
  rw [e]
  exact Array.getElem?_eq_getElem h

theorem text_blank (S : Nat → ByteArray) (n k : Nat) (hk : k < n) (h : pos S k + (S k).size < (text S (n + 1)).size) : (((text S (n + 1))[pos S k + (S k).size]'h).toNat : Int) = 32 := by
  have h1 := at_blank S n k hk
  rw [text_get? S (n + 1) _ h] at h1
  simp only [Option.some.injEq] at h1
  rw [h1]; rfl

theorem text_scope (S : Nat → ByteArray) (n k t : Nat) (hk : k < n + 1) (ht : t < (S k).size) (h : pos S k + t < (text S (n + 1)).size) : (text S (n + 1))[pos S k + t]'h = (S k)[t]'ht := by
  have h1 := at_scope S n k t hk ht
  rw [text_get? S (n + 1) _ h, show (S k).data.toList[t]? = some ((S k)[t]'ht) by rw [Array.getElem?_toList]; exact Array.getElem?_eq_getElem ht] at h1
  simpa using h1

theorem text_extract (S : Nat → ByteArray) (n k : Nat) (hk : k < n + 1) : (text S (n + 1)).extract (pos S k) (pos S k + (S k).size) = S k := by
  have hbi : ∀ {a b : ByteArray}, a.data.toList = b.data.toList → a = b := fun {a b} h => by
    cases a; cases b; simp at h; simp [h]
  apply hbi
  rw [Lib.extract_data]
  show ((joined S (n + 1)).drop (pos S k)).take (pos S k + (S k).size - pos S k) = _
  rw [show pos S k + (S k).size - pos S k = (S k).size by omega]
  apply List.ext_getElem?
  intro i
  by_cases hi : i < (S k).size
  · rw [List.getElem?_take_of_lt hi, List.getElem?_drop]
    exact at_scope S n k i hk hi
  · rw [List.getElem?_eq_none (by simp only [List.length_take]; omega), List.getElem?_eq_none (by show (S k).size ≤ i; omega)]
end Go.Proofs.Qxb6623403a.Seat
