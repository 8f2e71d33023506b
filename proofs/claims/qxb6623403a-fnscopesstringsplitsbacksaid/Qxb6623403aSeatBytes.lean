/- Seat b6623403a: what the two laws' size checks do: they return some bool and leave the world. -/
import Derived.Test.Qxb6623403aRows
import Derived.WalkKit
namespace Go.Proofs.Qxb6623403a.Seat
open Go.RowKit

/-- n strings lie in a row behind the address 'a' (of no strings: whatever address). -/
def Strs (w : World) (a : Option Addr) (n : Nat) (S : Nat → ByteArray) : Prop :=
  n = 0 ∨ ∃ b o, a = some ⟨b, o, none⟩ ∧ b < w.heap.size ∧ ∀ j, j < n → w.cell? ⟨b, o + j, none⟩ = some (.string (S j))

/-- Each of the first k strings has at most 2^20 bytes. -/
def Small (S : Nat → ByteArray) (k : Nat) : Prop := ∀ j, j < k → (S j).size ≤ 1048576

theorem Small.next {S : Nat → ByteArray} {k : Nat} (h : Small S k) (hk : (S k).size ≤ 1048576) : Small S (k + 1) := by
  intro j hj
  by_cases e : j = k
  · subst e; exact hk
  · exact h j (by omega)

/-- A bool is returned; true only where each string is small. -/
def Told (S : Nat → ByteArray) (n : Nat) (e : Ending) : Prop := e = .returned (.bool false) ∨ (e = .returned (.bool true) ∧ Small S n)

/-- No element: whatever the address. -/
theorem bytes7_none (a : Option Addr) (c : Nat) (S : Nat → ByteArray) (w : World) :
    Calls Try.prog 7 #[.slice a 0 c] w fun e w' => Told S 0 e ∧ w' = w := by
  go_enter Try.func7, Try.ntmps7
  go_wp2
  refine wp_loop_rounds 1 ?_
  rw [rounds_succ]
  go_wp2
  all_goals (go_ret; first | exact ⟨Or.inl rfl, rfl⟩ | exact ⟨Or.inr ⟨rfl, fun j hj => absurd hj (Nat.not_lt_zero _)⟩, rfl⟩ | exact ⟨Or.inr ⟨rfl, HK.out⟩, rfl⟩)

set_option maxHeartbeats 400000 in
theorem bytes7 (a : Option Addr) (n c : Nat) (S : Nat → ByteArray) (w : World) (hx : n ≤ maxLen) (hs : ∀ j, j < n → (S j).size ≤ maxLen) (hc : Strs w a n S) :
    Calls Try.prog 7 #[.slice a n c] w fun e w' => Told S n e ∧ w' = w := by
  unfold maxLen at hx hs
  by_cases hn : 1048576 < n
  · have hn' : (1048576 : Int) < (n : Int) := by omega
    clear hs hc
    go_enter Try.func7, Try.ntmps7
    go_wp2
    all_goals (go_ret; first | exact ⟨Or.inl rfl, rfl⟩ | exact ⟨Or.inr ⟨rfl, fun j hj => absurd hj (Nat.not_lt_zero _)⟩, rfl⟩ | exact ⟨Or.inr ⟨rfl, HK.out⟩, rfl⟩)
  · rcases hc with rfl | ⟨b, o, rfl, hb, hc⟩
    · exact bytes7_none a c S w
    · have HS : Hid (∀ j, j < n → (S j).size ≤ 9223372036854775807) := hs
      have HC : Hid (∀ j, j < n → w.cell? ⟨b, o + j, none⟩ = some (.string (S j))) := hc
      clear hs hc
      go_enter Try.func7, Try.ntmps7
      go_wp2
      go_loop [3, 4] (fun z i => ∃ (k : Nat) (q : Int), k ≤ n ∧ i = .int .i64 k ∧ z = .int .i64 q ∧ 0 ≤ q ∧ q ≤ 1048576 ∧ Hid (Small S k)) (fun _ i => n - (intOf i).toNat)
      case atStart => exact ⟨0, _, Nat.zero_le _, rfl, rfl, by omega, by omega, fun j hj => absurd hj (Nat.not_lt_zero _)⟩
      case round =>
        obtain ⟨k, q, hk, rfl, rfl, hq0, hq1, HK⟩ := hrel
        by_cases hlt : k < n
        · have hcx := HC.out k (by omega)
          have hsx := HS.out k (by omega)
          go_wp2
          all_goals first
            | (go_ret; first | exact ⟨Or.inl rfl, rfl⟩ | exact ⟨Or.inr ⟨rfl, fun j hj => absurd hj (Nat.not_lt_zero _)⟩, rfl⟩ | exact ⟨Or.inr ⟨rfl, HK.out⟩, rfl⟩)
            | (go_round
               case rel => exact ⟨k + 1, _, by omega, by go_num, rfl, by omega, by omega, Small.next HK.out (by omega)⟩
               case measure => simp [intOf]; omega)
        · have hke : k = n := by omega
          subst hke
          go_wp2
          all_goals (go_ret; first | exact ⟨Or.inl rfl, rfl⟩ | exact ⟨Or.inr ⟨rfl, fun j hj => absurd hj (Nat.not_lt_zero _)⟩, rfl⟩ | exact ⟨Or.inr ⟨rfl, HK.out⟩, rfl⟩)

/-- No element: whatever the address. -/
theorem bytes5_none (a : Option Addr) (c : Nat) (S : Nat → ByteArray) (i : Int) (x : ByteArray) (w : World) (hx : x.size ≤ maxLen) :
    Calls Try.prog 5 #[.slice a 0 c, .int .i64 i, .string x] w fun e w' => Told S 0 e ∧ w' = w := by
  unfold maxLen at hx
  go_enter Try.func5, Try.ntmps5
  go_wp2
  refine wp_loop_rounds 1 ?_
  rw [rounds_succ]
  go_wp2
  all_goals (go_ret; first | exact ⟨Or.inl rfl, rfl⟩ | exact ⟨Or.inr ⟨rfl, fun j hj => absurd hj (Nat.not_lt_zero _)⟩, rfl⟩ | exact ⟨Or.inr ⟨rfl, HK.out⟩, rfl⟩)

set_option maxHeartbeats 400000 in
theorem bytes5 (a : Option Addr) (n c : Nat) (S : Nat → ByteArray) (p : Int) (x : ByteArray) (w : World) (hx : n ≤ maxLen) (hs : ∀ j, j < n → (S j).size ≤ maxLen) (hxs : x.size ≤ maxLen) (hc : Strs w a n S) :
    Calls Try.prog 5 #[.slice a n c, .int .i64 p, .string x] w fun e w' => Told S n e ∧ w' = w := by
  by_cases hn : 1048576 < n
  · have hn' : (1048576 : Int) < (n : Int) := by omega
    unfold maxLen at hx hs hxs
    clear hs hc
    go_enter Try.func5, Try.ntmps5
    go_wp2
    all_goals (go_ret; first | exact ⟨Or.inl rfl, rfl⟩ | exact ⟨Or.inr ⟨rfl, fun j hj => absurd hj (Nat.not_lt_zero _)⟩, rfl⟩ | exact ⟨Or.inr ⟨rfl, HK.out⟩, rfl⟩)
  · rcases hc with rfl | ⟨b, o, rfl, hb, hc⟩
    · exact bytes5_none a c S p x w hxs
    · unfold maxLen at hx hs hxs
      have HS : Hid (∀ j, j < n → (S j).size ≤ 9223372036854775807) := hs
      have HC : Hid (∀ j, j < n → w.cell? ⟨b, o + j, none⟩ = some (.string (S j))) := hc
      clear hs hc
      go_enter Try.func5, Try.ntmps5
      go_wp2
      go_loop [7, 8] (fun z i => ∃ (k : Nat) (q : Int), k ≤ n ∧ i = .int .i64 k ∧ z = .int .i64 q ∧ 0 ≤ q ∧ q ≤ 1048576 ∧ Hid (Small S k)) (fun _ i => n - (intOf i).toNat)
      case atStart => exact ⟨0, _, Nat.zero_le _, rfl, rfl, by omega, by omega, fun j hj => absurd hj (Nat.not_lt_zero _)⟩
      case round =>
        obtain ⟨k, q, hk, rfl, rfl, hq0, hq1, HK⟩ := hrel
        by_cases hlt : k < n
        · have hcx := HC.out k (by omega)
          have hsx := HS.out k (by omega)
          go_wp2
          all_goals first
            | (go_ret; first | exact ⟨Or.inl rfl, rfl⟩ | exact ⟨Or.inr ⟨rfl, fun j hj => absurd hj (Nat.not_lt_zero _)⟩, rfl⟩ | exact ⟨Or.inr ⟨rfl, HK.out⟩, rfl⟩)
            | (go_round
               case rel => exact ⟨k + 1, _, by omega, by go_num, rfl, by omega, by omega, Small.next HK.out (by omega)⟩
               case measure => simp [intOf]; omega)
        · have hke : k = n := by omega
          subst hke
          go_wp2
          all_goals (go_ret; first | exact ⟨Or.inl rfl, rfl⟩ | exact ⟨Or.inr ⟨rfl, fun j hj => absurd hj (Nat.not_lt_zero _)⟩, rfl⟩ | exact ⟨Or.inr ⟨rfl, HK.out⟩, rfl⟩)
end Go.Proofs.Qxb6623403a.Seat
