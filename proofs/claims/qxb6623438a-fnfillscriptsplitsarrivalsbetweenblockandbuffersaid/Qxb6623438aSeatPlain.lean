/- Seat b6623438a: arrivals split between the block and the buffer: the plain laws, no Go in sight. -/
namespace Go.Proofs.Qxb6623438a.Seat

/-- The sum of the first k arrivals. -/
def ps (N : Nat → Int) : Nat → Int
  | 0 => 0
  | k + 1 => ps N k + N k

theorem ps_mono (N : Nat → Int) (n : Nat) (h : ∀ j, j < n → 0 ≤ N j) (i : Nat) : ∀ j, i ≤ j → j ≤ n → ps N i ≤ ps N j := by
  intro j hij hj
  induction j with
  | zero => have : i = 0 := by omega
            subst this; exact Int.le_refl _
  | succ j ih =>
    by_cases e : i = j + 1
    · subst e; exact Int.le_refl _
    · have h1 := ih (by omega) (by omega)
      have h2 := h j (by omega)
      simp only [ps]; omega

theorem ps_nonneg (N : Nat → Int) (n : Nat) (h : ∀ j, j < n → 0 ≤ N j) (k : Nat) (hk : k ≤ n) : 0 ≤ ps N k := by
  have := ps_mono N n h 0 k (by omega) hk
  simpa [ps] using this

/-- How much of t arrivals goes into the block, of which 'rec' bytes have arrived and which is d long. -/
def blk (rec d t : Int) : Int := if rec < d then (if d - rec < t then d - rec else t) else 0

theorem blk_zero (rec d : Int) : blk rec d 0 = 0 := by unfold blk; split <;> (try split) <;> omega

theorem blk_bd (rec d t : Int) (ht : 0 ≤ t) : 0 ≤ blk rec d t ∧ blk rec d t ≤ t ∧ (rec < d → rec + blk rec d t ≤ d) ∧ (¬ rec < d → blk rec d t = 0) := by
  unfold blk; split <;> (try split) <;> omega

/-- No chunk crosses the end of the block. -/
def NoCross (rec d : Int) (N : Nat → Int) (n : Nat) : Prop := rec < d → ∀ k, k < n → ps N k < d - rec → ps N (k + 1) ≤ d - rec

theorem noCross_le (rec d : Int) (N : Nat → Int) (n : Nat) (h : ∀ j, j < n → 0 ≤ N j) (ht : ps N n ≤ d - rec) : NoCross rec d N n := by
  intro _ k hk _
  exact Int.le_trans (ps_mono N n h (k + 1) n (by omega) (Nat.le_refl _)) ht

theorem noCross_at (rec d : Int) (N : Nat → Int) (n m : Nat) (hm : m ≤ n) (h : ∀ j, j < n → 0 ≤ N j) (ht : ps N m = d - rec) : NoCross rec d N n := by
  intro _ k hk hlt
  have hkm : k < m := by
    rcases Nat.lt_or_ge k m with h1 | h1
    · exact h1
    · have := ps_mono N n h m k h1 (by omega)
      omega
  have := ps_mono N n h (k + 1) m (by omega) hm
  omega

theorem noCross_none (rec d : Int) (N : Nat → Int) (n : Nat) (h : ¬ rec < d) : NoCross rec d N n := fun h' => absurd h' h

/-- A chunk for the block. -/
theorem step_block (rec d : Int) (N : Nat → Int) (n k : Nat) (hk : k < n) (h : ∀ j, j < n → 0 ≤ N j) (hx : NoCross rec d N n) (hlt : rec + blk rec d (ps N k) < d) :
    blk rec d (ps N (k + 1)) = blk rec d (ps N k) + N k ∧ ps N (k + 1) - blk rec d (ps N (k + 1)) = ps N k - blk rec d (ps N k) ∧ rec + blk rec d (ps N k) + N k ≤ d := by
  have h0 := ps_nonneg N n h k (by omega)
  have h1 := h k hk
  have e : ps N (k + 1) = ps N k + N k := rfl
  have hb := blk_bd rec d (ps N k) h0
  by_cases hrd : rec < d
  · have hlt2 : ps N k < d - rec := by
      unfold blk at hlt
      rw [if_pos hrd] at hlt
      split at hlt <;> omega
    have hx2 := hx hrd k hk hlt2
    unfold blk
    rw [if_pos hrd, if_pos hrd, if_neg (by omega), if_neg (by omega)]
    omega
  · omega

/-- A chunk for the buffer. -/
theorem step_buf (rec d : Int) (N : Nat → Int) (n k : Nat) (hk : k < n) (h : ∀ j, j < n → 0 ≤ N j) (hlt : ¬ rec + blk rec d (ps N k) < d) :
    blk rec d (ps N (k + 1)) = blk rec d (ps N k) ∧ ps N (k + 1) - blk rec d (ps N (k + 1)) = ps N k - blk rec d (ps N k) + N k := by
  have h0 := ps_nonneg N n h k (by omega)
  have h1 := h k hk
  have e : ps N (k + 1) = ps N k + N k := rfl
  unfold blk at hlt ⊢
  by_cases hrd : rec < d
  · simp only [if_pos hrd] at hlt ⊢
    split at hlt <;> (rw [e]; split <;> (try split) <;> omega)
  · rw [if_neg hrd, if_neg hrd]
    exact ⟨rfl, by omega⟩

/-- What the buffer has taken never falls. -/
theorem buf_mono (rec d s t : Int) (h : s ≤ t) : s - blk rec d s ≤ t - blk rec d t := by
  unfold blk
  by_cases hrd : rec < d
  · simp only [if_pos hrd]
    split <;> split <;> omega
  · simp only [if_neg hrd]; omega
end Go.Proofs.Qxb6623438a.Seat
