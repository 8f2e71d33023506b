/- Seat b6623403a: the plain laws of joining by a blank: no Go in sight. -/
import Derived.Lib.Join
namespace Go.Proofs.Qxb6623403a.Seat
open Go.Lib

/-- The scopes 0 .. n-1 joined by a blank. -/
def joined (S : Nat → ByteArray) (n : Nat) : List UInt8 := Lib.join ((List.range n).map fun i => (S i).data.toList) [32]

/-- The sizes of the scopes 0 .. k-1, 16 more for each. -/
def tot (S : Nat → ByteArray) : Nat → Nat
  | 0 => 0
  | k + 1 => tot S k + 16 + (S k).size

theorem tot_mono (S : Nat → ByteArray) (k : Nat) : ∀ n, k ≤ n → tot S k ≤ tot S n := by
  intro n h
  induction n with
  | zero => have : k = 0 := by omega
            subst this; exact Nat.le_refl _
  | succ n ih =>
    by_cases hk : k = n + 1
    · subst hk; exact Nat.le_refl _
    · have := ih (by omega); simp only [tot]; omega

theorem tot_16 (S : Nat → ByteArray) (n : Nat) : 16 * n ≤ tot S n := by
  induction n with
  | zero => exact Nat.le_refl _
  | succ n ih => simp only [tot]; omega

theorem tot_shift (S : Nat → ByteArray) (p : Nat) : ∀ m, tot (fun j => S (p + j)) m + tot S p = tot S (p + m) := by
  intro m
  induction m with
  | zero => simp [tot]
  | succ m ih =>
    rw [show p + (m + 1) = (p + m) + 1 from rfl]
    show tot (fun j => S (p + j)) m + 16 + (S (p + m)).size + tot S p = tot S (p + m) + 16 + (S (p + m)).size
    omega

theorem tot_congr (S T : Nat → ByteArray) : ∀ n, (∀ j, j < n → S j = T j) → tot S n = tot T n := by
  intro n h
  induction n with
  | zero => rfl
  | succ n ih => simp only [tot]; rw [ih (fun j hj => h j (by omega)), h n (by omega)]

theorem joined_zero (S : Nat → ByteArray) : joined S 0 = [] := rfl

theorem joined_congr (S T : Nat → ByteArray) (n : Nat) (h : ∀ j, j < n → S j = T j) : joined S n = joined T n := by
  unfold joined
  congr 1
  apply List.map_congr_left
  intro j hj
  rw [h j (List.mem_range.1 hj)]

theorem joinTail_append (sep : List UInt8) (r s : List (List UInt8)) : joinTail sep (r ++ s) = joinTail sep r ++ joinTail sep s := by
  simp [joinTail]

theorem join_append (sep : List UInt8) (xs ys : List (List UInt8)) (hx : xs ≠ []) (hy : ys ≠ []) : join (xs ++ ys) sep = join xs sep ++ sep ++ join ys sep := by
  match xs, ys, hx, hy with
  | x :: r, y :: s, _, _ =>
    rw [List.cons_append, join_cons, join_cons, join_cons, joinTail_append]
    simp [joinTail]

/-- One scope more at the end. -/
theorem joined_succ (S : Nat → ByteArray) (n : Nat) (h : 0 < n) : joined S (n + 1) = joined S n ++ [32] ++ (S n).data.toList := by
  unfold joined
  rw [List.range_succ, List.map_append, join_append _ _ _ (by simp; omega) (by simp)]
  simp [join_one]

theorem joined_one (S : Nat → ByteArray) : joined S 1 = (S 0).data.toList := by
  simp [joined, join_one]

/-- Cut at place p: both parts not empty. -/
theorem joined_cut (S : Nat → ByteArray) (p m : Nat) (hp : 0 < p) (hm : 0 < m) : joined S (p + m) = joined S p ++ [32] ++ joined (fun j => S (p + j)) m := by
  unfold joined
  rw [List.range_add, List.map_append, join_append _ _ _ (by simp; omega) (by simp; omega)]
  simp [List.map_map, Function.comp_def]

theorem joined_le (S : Nat → ByteArray) (n : Nat) : (joined S n).length ≤ tot S n := by
  induction n with
  | zero => simp [joined_zero, tot]
  | succ n ih =>
    by_cases h : n = 0
    · subst h
      rw [joined_one]
      have : (S 0).data.toList.length = (S 0).size := rfl
      simp only [tot, this]
      omega
    · rw [joined_succ S n (by omega)]
      have : (S n).data.toList.length = (S n).size := rfl
      simp only [List.length_append, List.length_cons, List.length_nil, tot, this]
      omega

/-- x put in at place p. -/
def putIn (S : Nat → ByteArray) (p : Nat) (x : ByteArray) (j : Nat) : ByteArray := if j < p then S j else if j = p then x else S (j - 1)

theorem tot_putIn (S : Nat → ByteArray) (p n : Nat) (x : ByteArray) (h : p ≤ n) : tot (putIn S p x) (n + 1) = tot S n + 16 + x.size := by
  have e1 : tot (putIn S p x) p = tot S p := tot_congr _ _ _ (fun j hj => by simp [putIn, hj])
  have e2 : tot (putIn S p x) (p + 1) = tot S p + 16 + x.size := by
    simp only [tot]; rw [e1]; simp [putIn]
  have e3 := tot_shift (putIn S p x) (p + 1) (n - p)
  have e4 : tot (fun j => putIn S p x (p + 1 + j)) (n - p) = tot (fun j => S (p + j)) (n - p) := tot_congr _ _ _ (fun j _ => by
    simp only [putIn]; rw [if_neg (by omega), if_neg (by omega)]; congr 1; omega)
  have e5 := tot_shift S p (n - p)
  rw [show p + 1 + (n - p) = n + 1 by omega] at e3
  rw [show p + (n - p) = n by omega] at e5
  omega

/-- THE PLAIN LAW: what is printed with x put in. -/
theorem joined_putIn (S : Nat → ByteArray) (p n : Nat) (x : ByteArray) (h : p ≤ n) :
    joined (putIn S p x) (n + 1) = (if 0 < p then joined S p ++ [32] ++ x.data.toList else x.data.toList) ++ (if p < n then [32] ++ joined (fun j => S (p + j)) (n - p) else []) := by
  have e1 : joined (putIn S p x) p = joined S p := joined_congr _ _ _ (fun j hj => by simp [putIn, hj])
  have e4 : joined (fun j => putIn S p x (p + 1 + j)) (n - p) = joined (fun j => S (p + j)) (n - p) := joined_congr _ _ _ (fun j _ => by
    simp only [putIn]; rw [if_neg (by omega), if_neg (by omega)]; congr 1; omega)
  have ex : putIn S p x p = x := by simp [putIn]
  have e2 : joined (putIn S p x) (p + 1) = if 0 < p then joined S p ++ [32] ++ x.data.toList else x.data.toList := by
    by_cases h0 : 0 < p
    · rw [joined_succ _ _ h0, e1, ex, if_pos h0]
    · have : p = 0 := by omega
      subst this
      rw [joined_one, ex]; simp
  by_cases hpn : p < n
  · have e3 := joined_cut (putIn S p x) (p + 1) (n - p) (by omega) (by omega)
    rw [show p + 1 + (n - p) = n + 1 by omega] at e3
    rw [e3, e2, e4, if_pos hpn]
    simp
  · have : p = n := by omega
    subst this
    rw [e2, if_neg hpn]; simp

/-! The comparison at the end of the walk, in its own spelling. -/
theorem same_mid {J A C : List UInt8} {x : ByteArray} (h : J = A ++ [32] ++ x.data.toList ++ ([32] ++ C)) : (J == ((⟨A.toArray⟩ : ByteArray) ++ ⟨#[32]⟩ ++ x ++ ⟨#[32]⟩ ++ ⟨C.toArray⟩).toList) = true := by
  rw [Lib.toList_data, h]; simp
theorem same_end {J A : List UInt8} {x : ByteArray} (h : J = A ++ [32] ++ x.data.toList) : (J == ((⟨A.toArray⟩ : ByteArray) ++ ⟨#[32]⟩ ++ x).toList) = true := by
  rw [Lib.toList_data, h]; simp
theorem same_start {J C : List UInt8} {x : ByteArray} (h : J = x.data.toList ++ ([32] ++ C)) : (J == (x ++ ⟨#[32]⟩ ++ ⟨C.toArray⟩).toList) = true := by
  rw [Lib.toList_data, h]; simp
theorem same_one {J : List UInt8} {x : ByteArray} (h : J = x.data.toList) : (J == x.toList) = true := by
  rw [Lib.toList_data, h]; simp
end Go.Proofs.Qxb6623403a.Seat
