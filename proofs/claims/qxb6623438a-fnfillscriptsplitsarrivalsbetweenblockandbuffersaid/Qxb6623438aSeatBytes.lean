/- Seat b6623438a: what the size check does: a bool; true only where every length is small. -/
import Derived.Test.Qxb6623438aRows
import Derived.WalkKit
import Derived.Deep.OwnRows
import Derived.Laws.CopyOwn
namespace Go.Proofs.Qxb6623438a.Seat
open Go.RowKit

theorem hidm {p : Prop} (h : p) : Hid p := h

/-- n cells lie in a row behind the address 'a' (of no cells: whatever address). -/
def Row (w : World) (a : Option Addr) (n : Nat) (f : Nat → Value) : Prop :=
  n = 0 ∨ ∃ b o, a = some ⟨b, o, none⟩ ∧ b < w.heap.size ∧ ∀ j, j < n → w.cell? ⟨b, o + j, none⟩ = some (f j)

/-- A row of slices: their addresses, lengths, capacities. -/
def words (A : Nat → Option Addr) (L C : Nat → Nat) (j : Nat) : Value := .slice (A j) (L j) (C j)

/-- Each of the first k words is at most 2^20 long. -/
def Small (L : Nat → Nat) (k : Nat) : Prop := ∀ j, j < k → L j ≤ 1048576

theorem Small.next {L : Nat → Nat} {k : Nat} (h : Small L k) (hk : L k ≤ 1048576) : Small L (k + 1) := by
  intro j hj
  by_cases e : j = k
  · subst e; exact hk
  · exact h j (by omega)

/-- A bool is returned; true only where all is small. -/
def Told (n0 n6 n9 n10 : Nat) (L : Nat → Nat) (e : Ending) : Prop :=
  e = .returned (.bool false) ∨ (e = .returned (.bool true) ∧ n0 ≤ 1048576 ∧ n6 ≤ 1048576 ∧ n9 ≤ 1048576 ∧ n10 ≤ 1048576 ∧ Small L n9)

set_option maxHeartbeats 1000000 in
theorem bytes4 (a0 a6 a9 a10 : Option Addr) (n0 c0 n6 c6 n9 c9 n10 c10 : Nat) (i1 i2 i3 i4 i5 i7 i8 : Int) (A : Nat → Option Addr) (L C : Nat → Nat) (w : World)
    (h0 : n0 ≤ maxLen) (h6 : n6 ≤ maxLen) (h9 : n9 ≤ maxLen) (h10 : n10 ≤ maxLen) (hs : ∀ j, j < n9 → L j ≤ maxLen) (hc : Row w a9 n9 (words A L C)) :
    Calls Try.prog 4 #[.slice a0 n0 c0, .int .i64 i1, .int .i64 i2, .int .i64 i3, .int .i64 i4, .int .i64 i5, .slice a6 n6 c6, .int .i64 i7, .int .i64 i8, .slice a9 n9 c9, .slice a10 n10 c10] w fun e w' => Told n0 n6 n9 n10 L e ∧ w' = w := by
  unfold maxLen at h0 h6 h9 h10 hs
  have HS := hidm hs
  have HC := hidm hc
  clear hs hc
  go_enter Try.func4, Try.ntmps4
  go_wp2
  · go_ret; exact ⟨Or.inl rfl, rfl⟩
  · go_ret; exact ⟨Or.inl rfl, rfl⟩
  · go_ret; exact ⟨Or.inl rfl, rfl⟩
  · go_ret; exact ⟨Or.inl rfl, rfl⟩
  · go_ret; exact ⟨Or.inl rfl, rfl⟩
  go_loop [23, 24] (fun z i => ∃ (k : Nat) (q : Int), k ≤ n9 ∧ i = .int .i64 k ∧ z = .int .i64 q ∧ 0 ≤ q ∧ q ≤ 1048576 ∧ Hid (Small L k)) (fun _ i => n9 - (intOf i).toNat)
  case atStart => exact ⟨0, _, Nat.zero_le _, rfl, rfl, by omega, by omega, fun j hj => absurd hj (Nat.not_lt_zero _)⟩
  case round =>
    obtain ⟨k, q, hk, rfl, rfl, hq0, hq1, HK⟩ := hrel
    by_cases hlt : k < n9
    · rcases HC.out with hz | ⟨b, o, rfl, hb, hcell⟩
      · omega
      have hcx : w.cell? ⟨b, o + k, none⟩ = some (.slice (A k) (L k) (C k)) := hcell k hlt
      have hsx := HS.out k hlt
      clear hcell
      go_wp2
      all_goals first
        | (go_ret; exact ⟨Or.inl rfl, rfl⟩)
        | (go_round
           case rel => exact ⟨k + 1, _, by omega, by go_num, rfl, by omega, by omega, Small.next HK.out (by omega)⟩
           case measure => simp [intOf]; omega)
    · have hke : k = n9 := by omega
      subst hke
      go_wp2
      all_goals (go_ret; first | exact ⟨Or.inl rfl, rfl⟩ | exact ⟨Or.inr ⟨rfl, by omega, by omega, by omega, by omega, HK.out⟩, rfl⟩)
end Go.Proofs.Qxb6623438a.Seat
