/- Seat b6623438a: the walk of FnFillScriptSplitsArrivalsBetweenBlockAndBuffer. -/
import Derived.Test.Qxb6623438aSeatRest1
namespace Go.Proofs.Qxb6623438a.Seat
open Go.RowKit

theorem InRoom.next {N : Nat → Int} {room : Int} {k : Nat} (h : InRoom N room k) (hk : 0 ≤ N k ∧ N k ≤ room) : InRoom N room (k + 1) := by
  intro j hj
  by_cases e : j = k
  · subst e; exact hk
  · exact h j (by omega)

set_option maxRecDepth 100000 in
set_option maxHeartbeats 4000000 in
theorem law (a0 a6 a9 a10 : Option Addr) (n0 c0 n6 c6 n9 c9 n10 c10 : Nat) (i1 i2 i3 i4 i5 i7 i8 : Int) (Z0 Z6 : Nat → Int) (A : Nat → Option Addr) (L C : Nat → Nat) (Zw : Nat → Nat → Int) (N : Nat → Int) (w : World)
    (h0 : n0 ≤ maxLen) (h6 : n6 ≤ maxLen) (h9 : n9 ≤ maxLen) (h10 : n10 ≤ maxLen) (hs : ∀ j, j < n9 → L j ≤ maxLen)
    (e6 : a6 = none → n6 = 0 ∧ c6 = 0) (e9 : a9 = none → n9 = 0 ∧ c9 = 0) (eA : ∀ j, j < n9 → A j = none → L j = 0 ∧ C j = 0)
    (b7 : i7 ≤ 9223372036854775807) (bN : ∀ j, j < n10 → -9223372036854775808 ≤ N j ∧ N j ≤ 9223372036854775807)
    (r0 : Row w a0 n0 (u8 Z0)) (r6 : Row w a6 n6 (u8 Z6)) (r9 : Row w a9 n9 (words A L C)) (r10 : Row w a10 n10 (i64s N)) (rw9 : ∀ j, j < n9 → Row w (A j) (L j) (u8 (Zw j))) :
    Calls Try.prog 3 #[.slice a0 n0 c0, .int .i64 i1, .int .i64 i2, .int .i64 i3, .int .i64 i4, .int .i64 i5, .slice a6 n6 c6, .int .i64 i7, .int .i64 i8, .slice a9 n9 c9, .slice a10 n10 c10] w fun e w' => e = .returned (.bool true) ∧ Below w.heap.size w w' := by
  have hB := hidm (bytes4 a0 a6 a9 a10 n0 c0 n6 c6 n9 c9 n10 c10 i1 i2 i3 i4 i5 i7 i8 A L C w h0 h6 h9 h10 hs r9)
  have R0 := hidm r0
  have R6 := hidm r6
  have R9 := hidm r9
  have R10 := hidm r10
  have RW := hidm rw9
  have E6 := hidm e6
  have E9 := hidm e9
  have EA := hidm eA
  have BN := hidm bN
  clear hs r0 r6 r9 r10 rw9 e6 e9 eA bN
  unfold maxLen at h0 h6 h9 h10
  go_enter Try.func3, Try.ntmps3
  go_wp2_with fail
  refine (Hid.out hB).mono ?_
  rintro e w' ⟨hT, hw⟩
  obtain rfl := hw.symm
  clear hB hw
  rcases hT with rfl | ⟨rfl, k0, k6, k9, k10, hSm⟩
  · go_wp2
    go_ret
    exact ⟨rfl, Below.refl _ _⟩
  have HS := hidm hSm
  clear hSm h0 h6 h9 h10
  go_wp2
  · go_ret; exact ⟨rfl, Below.refl _ _⟩
  · go_ret; exact ⟨rfl, Below.refl _ _⟩
  · go_ret; exact ⟨rfl, Below.refl _ _⟩
  · go_ret; exact ⟨rfl, Below.refl _ _⟩
  · go_ret; exact ⟨rfl, Below.refl _ _⟩
  go_loop [23, 24] (fun z i => ∃ (k : Nat) (q : Int), k ≤ n9 ∧ i = .int .i64 k ∧ z = .int .i64 q ∧ 0 ≤ q ∧ q ≤ 1048576) (fun _ i => n9 - (intOf i).toNat)
  case atStart => exact ⟨0, _, Nat.zero_le _, rfl, rfl, by omega, by omega⟩
  case round =>
    obtain ⟨k, q, hk, rfl, rfl, hq0, hq1⟩ := hrel
    by_cases hlt : k < n9
    · rcases R9.out with hz | ⟨b, o, rfl, hb, hcell⟩
      · omega
      have hcx : w.cell? ⟨b, o + k, none⟩ = some (.slice (A k) (L k) (C k)) := hcell k hlt
      have hsx : L k ≤ 1048576 := HS.out k hlt
      clear hcell
      go_wp2
      · go_ret; exact ⟨rfl, Below.refl _ _⟩
      · go_round
        case rel => exact ⟨k + 1, _, by omega, by go_num, rfl, by omega, by omega⟩
        case measure => simp [intOf]; omega
    · clear hq0 hq1
      by_cases p0 : i1 < 0
      · go_wp2
        go_ret; exact ⟨rfl, Below.refl _ _⟩
      by_cases p1 : (n0 : Int) < i1
      · go_wp2
        go_ret; exact ⟨rfl, Below.refl _ _⟩
      by_cases p7 : i7 < 0
      · go_wp2
        go_ret; exact ⟨rfl, Below.refl _ _⟩
      obtain ⟨bl, rfl⟩ : ∃ bl : Nat, i1 = bl := ⟨i1.toNat, by omega⟩
      go_wp2
      go_loop [26, 27] (fun t i => ∃ (k : Nat), k ≤ n10 ∧ i = .int .i64 k ∧ t = .int .i64 (ps N k) ∧ 0 ≤ ps N k ∧ ps N k ≤ (n0 : Int) + n6 ∧ Hid (InRoom N ((n0 : Int) + n6) k)) (fun _ i => n10 - (intOf i).toNat)
      case atStart => exact ⟨0, Nat.zero_le _, rfl, rfl, Int.le_refl _, by simp [ps]; omega, fun j hj => absurd hj (Nat.not_lt_zero _)⟩
      case round =>
        obtain ⟨m, hm, rfl, rfl, hp0, hp1, HI⟩ := hrel
        by_cases hlt2 : m < n10
        · rcases R10.out with hz | ⟨b, o, rfl, hb, hcell⟩
          · omega
          have hcx : w.cell? ⟨b, o + m, none⟩ = some (.int .i64 (N m)) := hcell m hlt2
          have HP : Hid (ps N (m + 1) = ps N m + N m) := rfl
          clear hcell
          by_cases q0 : N m < 0
          · go_wp2
            go_ret; exact ⟨rfl, Below.refl _ _⟩
          by_cases q1 : (n0 : Int) + n6 < N m
          · go_wp2
            go_ret; exact ⟨rfl, Below.refl _ _⟩
          go_wp2
          · go_ret; exact ⟨rfl, Below.refl _ _⟩
          · go_round
            case rel => exact ⟨m + 1, by omega, by go_num, by rw [HP.out], by rw [HP.out]; omega, by rw [HP.out]; omega, InRoom.next HI.out ⟨by omega, by omega⟩⟩
            case measure => simp [intOf]; omega
        · have hme : m = n10 := by omega
          subst hme
          clear hlt hlt2
          by_cases hrd : i7 < n6
          · by_cases htw : (n6 : Int) - i7 < ps N m
            · have HBE : Hid (blk i7 n6 (ps N m) = n6 - i7) := by show _ = _; rw [blk, if_pos hrd, if_pos htw]
              go_wp2
              go_loop [31, 32, 33] (fun p ok i => ∃ (k : Nat), k ≤ m ∧ i = .int .i64 k ∧ p = .int .i64 (ps N k) ∧ ok = .bool false ∧ 0 ≤ ps N k ∧ ps N k ≤ (n0 : Int) + n6) (fun _ _ i => m - (intOf i).toNat)
              case atStart => exact ⟨0, Nat.zero_le _, rfl, rfl, rfl, Int.le_refl _, by simp [ps]; omega⟩
              case round =>
                obtain ⟨k, hk, rfl, rfl, rfl, hz0, hz1⟩ := hrel
                by_cases hlt3 : k < m
                · rcases R10.out with hz | ⟨b, o, ha10, hb, hcell⟩
                  · omega
                  have hcx : w.cell? ⟨b, o + k, none⟩ = some (.int .i64 (N k)) := hcell k hlt3
                  have hN := HI.out k hlt3
                  have HP : Hid (ps N (k + 1) = ps N k + N k) := rfl
                  have HPM := hidm (ps_mono N m (fun j hj => (HI.out j hj).1) (k + 1) m (by omega) (Nat.le_refl _))
                  clear hcell
                  by_cases heq : ps N k + N k = (n6 : Int) - i7
                  · have heqb : (ps N k + N k == (n6 : Int) - i7) = true := beq_iff_eq.2 heq
                    have HE := hidm heq
                    clear heq
                    have HXX := hidm (noCross_at i7 n6 N m (k + 1) (by omega) (fun j hj => (HI.out j hj).1) (by rw [HP.out]; exact HE.out))
                    repeat ((fail_if_success with_reducible (refine (show Code.wp _ (Code.seq (Code.region 57 _ _) _) _ _ _ from ?_))); (first | go_values | go_skip | go_guarded | go_step | go_upon | go_back | (simp only [Int.not_lt, Int.not_le] at *; go_simp)))
                    exact rest1w a0 a6 a9 a10 n0 c0 n6 c6 n9 c9 m c10 bl i2 i3 i4 i5 i7 i8 Z0 Z6 A L C Zw N w k0 k6 k9 k10 HS.out (by omega) b7 (by omega) HI.out hp1 HXX.out E6.out E9.out EA.out R0.out R6.out R9.out R10.out RW.out _ HBE.out.symm _ _ _ _ _ _ _ _ _ _ _ _ _ _ _ _ _ _ _ _ _ _ _ _ _ _ _ _ _ _ _ _ _ _ _ _ _ _ _ _ _ _ _ _ _ _ _ _ _ _ _ _ _ _ _ _ _ _ _ _ _ _ _ _ _ _ _ _ _ _ _ _ _ _ _ _ _ _ _ _ _ _ _ _ _ _ _ _ _ _ _ _ _ _ _ _ _ _ _ _ _ _ _ _ _ _ _ _ _ _ _ _ _ _ _ _ _ _ _ _ _ _ _ _ _ _ _ _ _ _ _ _ _ _ _ _ _ _ _ _ _ _ _ _ _ _ _ _ _ _ _ _ _ _ _ _ _ _ _ _ _ _ _ _ _ _ _ _ _ _ _ _ _ _ _ _ _ _ _ _ _ _ _ _ _ _ _ _ _ _ _ _ _ _ _ _ _ _ _ _ _ _ _ _ _ _ _ _ _ _ _ _ _ _ _ _ _ _ _ _ _ _ _ _ _ _ _ _ _ _ _ _ _ _ _ _ _ _ _ _ _ _ _ _ _ _ _ _ _ _ _ _ _ _ _ _ _ _ _ _ _ _ _ _ _ _ _ _ _ _ _ _ _ _ _ _ _ _ _ _ _ _ _ _ _ _ _ _ _ _ _ _ _ _ _ _ _ _ _ _ _ _ _ _ _ _ _ _ _ _ _ _ _ _ _ _ _ _ _ _ _ _ _ _ _ _
                  · have heqb : (ps N k + N k == (n6 : Int) - i7) = false := beq_eq_false_iff_ne.2 heq
                    clear heq
                    by_cases hgt : (n6 : Int) - i7 < ps N k + N k
                    · go_wp2
                      go_ret; exact ⟨rfl, Below.refl _ _⟩
                    · go_wp2
                      go_round
                      case rel => exact ⟨k + 1, by omega, by go_num, by rw [HP.out], rfl, by rw [HP.out]; omega, by have := HPM.out; omega⟩
                      case measure => simp [intOf]; omega
                · go_wp2
                  go_ret; exact ⟨rfl, Below.refl _ _⟩
            · have HBE : Hid (blk i7 n6 (ps N m) = ps N m) := by show _ = _; rw [blk, if_pos hrd, if_neg htw]
              have HXX := hidm (noCross_le i7 n6 N m (fun j hj => (HI.out j hj).1) (by omega))
              repeat ((fail_if_success with_reducible (refine (show Code.wp _ (Code.seq (Code.region 57 _ _) _) _ _ _ from ?_))); (first | go_values | go_skip | go_guarded | go_step | go_upon | go_back | (simp only [Int.not_lt, Int.not_le] at *; go_simp)))
              exact rest1w a0 a6 a9 a10 n0 c0 n6 c6 n9 c9 m c10 bl i2 i3 i4 i5 i7 i8 Z0 Z6 A L C Zw N w k0 k6 k9 k10 HS.out (by omega) b7 (by omega) HI.out hp1 HXX.out E6.out E9.out EA.out R0.out R6.out R9.out R10.out RW.out _ HBE.out.symm _ _ _ _ _ _ _ _ _ _ _ _ _ _ _ _ _ _ _ _ _ _ _ _ _ _ _ _ _ _ _ _ _ _ _ _ _ _ _ _ _ _ _ _ _ _ _ _ _ _ _ _ _ _ _ _ _ _ _ _ _ _ _ _ _ _ _ _ _ _ _ _ _ _ _ _ _ _ _ _ _ _ _ _ _ _ _ _ _ _ _ _ _ _ _ _ _ _ _ _ _ _ _ _ _ _ _ _ _ _ _ _ _ _ _ _ _ _ _ _ _ _ _ _ _ _ _ _ _ _ _ _ _ _ _ _ _ _ _ _ _ _ _ _ _ _ _ _ _ _ _ _ _ _ _ _ _ _ _ _ _ _ _ _ _ _ _ _ _ _ _ _ _ _ _ _ _ _ _ _ _ _ _ _ _ _ _ _ _ _ _ _ _ _ _ _ _ _ _ _ _ _ _ _ _ _ _ _ _ _ _ _ _ _ _ _ _ _ _ _ _ _ _ _ _ _ _ _ _ _ _ _ _ _ _ _ _ _ _ _ _ _ _ _ _ _ _ _ _ _ _ _ _ _ _ _ _ _ _ _ _ _ _ _ _ _ _ _ _ _ _ _ _ _ _ _ _ _ _ _ _ _ _ _ _ _ _ _ _ _ _ _ _ _ _ _ _ _ _ _ _ _ _ _ _ _ _ _ _ _ _ _ _ _ _ _ _ _ _ _ _ _ _ _ _ _
          · have HBE : Hid (blk i7 n6 (ps N m) = 0) := by show _ = _; rw [blk, if_neg hrd]
            have HXX := hidm (noCross_none i7 n6 N m hrd)
            repeat ((fail_if_success with_reducible (refine (show Code.wp _ (Code.seq (Code.region 57 _ _) _) _ _ _ from ?_))); (first | go_values | go_skip | go_guarded | go_step | go_upon | go_back | (simp only [Int.not_lt, Int.not_le] at *; go_simp)))
            exact rest1w a0 a6 a9 a10 n0 c0 n6 c6 n9 c9 m c10 bl i2 i3 i4 i5 i7 i8 Z0 Z6 A L C Zw N w k0 k6 k9 k10 HS.out (by omega) b7 (by omega) HI.out hp1 HXX.out E6.out E9.out EA.out R0.out R6.out R9.out R10.out RW.out _ HBE.out.symm _ _ _ _ _ _ _ _ _ _ _ _ _ _ _ _ _ _ _ _ _ _ _ _ _ _ _ _ _ _ _ _ _ _ _ _ _ _ _ _ _ _ _ _ _ _ _ _ _ _ _ _ _ _ _ _ _ _ _ _ _ _ _ _ _ _ _ _ _ _ _ _ _ _ _ _ _ _ _ _ _ _ _ _ _ _ _ _ _ _ _ _ _ _ _ _ _ _ _ _ _ _ _ _ _ _ _ _ _ _ _ _ _ _ _ _ _ _ _ _ _ _ _ _ _ _ _ _ _ _ _ _ _ _ _ _ _ _ _ _ _ _ _ _ _ _ _ _ _ _ _ _ _ _ _ _ _ _ _ _ _ _ _ _ _ _ _ _ _ _ _ _ _ _ _ _ _ _ _ _ _ _ _ _ _ _ _ _ _ _ _ _ _ _ _ _ _ _ _ _ _ _ _ _ _ _ _ _ _ _ _ _ _ _ _ _ _ _ _ _ _ _ _ _ _ _ _ _ _ _ _ _ _ _ _ _ _ _ _ _ _ _ _ _ _ _ _ _ _ _ _ _ _ _ _ _ _ _ _ _ _ _ _ _ _ _ _ _ _ _ _ _ _ _ _ _ _ _ _ _ _ _ _ _ _ _ _ _ _ _ _ _ _ _ _ _ _ _ _ _ _ _ _ _ _ _ _ _ _ _ _ _ _ _ _ _ _ _ _ _ _ _ _ _ _ _
end Go.Proofs.Qxb6623438a.Seat
