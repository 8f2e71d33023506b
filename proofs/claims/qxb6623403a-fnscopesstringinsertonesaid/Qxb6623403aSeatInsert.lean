/- Seat b6623403a: the walk of FnScopesStringInsertOne. -/
import Derived.Test.Qxb6623403aSeatString
namespace Go.Proofs.Qxb6623403a.Seat
open Go.RowKit

theorem info24 : (Try.prog.info? 24).map (fun i => (i.zero, i.size, i.bytes)) = some (some (.string ByteArray.empty), 1, 16) := by kernel_rfl

/-- What the new row holds in the second loop, k strings of s behind place q moved by one. -/
def moved (S : Nat → ByteArray) (q : Nat) (x : ByteArray) (k j : Nat) : Value := if j ≤ k then .string (putIn S q x j) else .string ByteArray.empty

theorem moved_start (S : Nat → ByteArray) (q : Nat) (x : ByteArray) (j : Nat) : (if j = q then Value.string x else upTo S q j) = moved S q x q j := by
  unfold upTo moved putIn
  by_cases h : j = q
  · subst h; simp
  · by_cases h2 : j < q
    · rw [if_neg h, if_pos h2, if_pos (by omega), if_pos h2]
    · rw [if_neg h, if_neg h2, if_neg (by omega)]

theorem moved_next (S : Nat → ByteArray) (q : Nat) (x : ByteArray) (k j : Nat) (hk : q ≤ k) : (if j = k + 1 then Value.string (S k) else moved S q x k j) = moved S q x (k + 1) j := by
  unfold moved
  by_cases h : j = k + 1
  · subst h
    rw [if_pos rfl, if_pos (Nat.le_refl _)]
    unfold putIn
    rw [if_neg (by omega), if_neg (by omega)]
    rfl
  · by_cases h2 : j ≤ k
    · rw [if_neg h, if_pos h2, if_pos (by omega)]
    · rw [if_neg h, if_neg h2, if_neg (by omega)]

theorem ret_true {b : Bool} (h : b = true) : Ending.returned (.bool b) = .returned (.bool true) := by rw [h]

set_option maxHeartbeats 1000000 in
theorem insert_walk (a : Option Addr) (n c : Nat) (S : Nat → ByteArray) (p : Int) (x : ByteArray) (w : World) (hx : n ≤ maxLen) (hs : ∀ j, j < n → (S j).size ≤ maxLen) (hxs : x.size ≤ maxLen) (hcap : n ≤ c) (hcm : c ≤ maxLen) (hc : Strs w a n S) :
    Calls Try.prog 3 #[.slice a n c, .int .i64 p, .string x] w fun e w' => e = .returned (.bool true) ∧ Below w.heap.size w w' := by
  have hB := hidm (bytes5 a n c S p x w hx hs hxs hc)
  have HC := hidm hc
  clear hc hs
  unfold maxLen at hx hxs hcm
  go_enter Try.func3, Try.ntmps3
  go_wp2_with fail
  refine (Hid.out hB).mono ?_
  rintro e w' ⟨hT, hw⟩
  obtain rfl := hw.symm
  clear hB hw
  rcases hT with rfl | ⟨rfl, hSm⟩
  · go_wp2
    go_ret
    exact ⟨rfl, Below.refl _ _⟩
  have HS := hidm hSm
  clear hSm
  by_cases n1 : 65536 < n
  · have n1' : (65536 : Int) < (n : Int) := by omega
    go_wp2
    go_ret
    exact ⟨rfl, Below.refl _ _⟩
  by_cases x1 : 65536 < x.size
  · have x1' : (65536 : Int) < (x.size : Int) := by omega
    go_wp2
    go_ret
    exact ⟨rfl, Below.refl _ _⟩
  go_wp2
  go_loop [7, 8] (fun z i => ∃ (k : Nat), k ≤ n ∧ i = .int .i64 k ∧ z = .int .i64 ((x.size : Int) + (tot S k : Int)) ∧ x.size + tot S k ≤ 1048576) (fun _ i => n - (intOf i).toNat)
  case atStart => exact ⟨0, Nat.zero_le _, rfl, by simp [tot], by simp [tot]; omega⟩
  case round =>
    obtain ⟨k, hk, rfl, rfl, hq⟩ := hrel
    by_cases hlt : k < n
    · rcases HC.out with h0 | ⟨b, o, rfl, hb, hcell⟩
      · omega
      have hcx := hcell k hlt
      have hsx : (S k).size ≤ 1048576 := HS.out k hlt
      have HT : Hid (tot S (k + 1) = tot S k + 16 + (S k).size) := rfl
      clear hcell
      go_wp2
      · go_ret; exact ⟨rfl, Below.refl _ _⟩
      · go_round
        case rel => exact ⟨k + 1, by omega, by go_num, by rw [HT.out]; go_num, by rw [HT.out]; omega⟩
        case measure => simp [intOf]; omega
    · have hke : k = n := by omega
      subst hke
      by_cases p0 : p < 0
      · go_wp2
        go_ret; exact ⟨rfl, Below.refl _ _⟩
      by_cases p1 : (k : Int) < p
      · go_wp2
        go_ret; exact ⟨rfl, Below.refl _ _⟩
      obtain ⟨q, rfl⟩ : ∃ q : Nat, p = q := ⟨p.toNat, by omega⟩
      have hmk := run_make_row' (P := Try.prog) 23 24 (.string ByteArray.empty) 16 Try.underlying23 info24 rfl .i64 .i64 (k + 1) (by omega) (by omega)
      rw [show ((k + 1 : Nat) : Int) = (k : Int) + 1 by omega] at hmk
      have hqk : q ≤ k := by omega
      go_wp2
      go_loopw [10] (fun i wr => ∃ m : Nat, m ≤ q ∧ i = .int .i64 m ∧ wr.rowIs w.heap.size 24 (k + 1) (upTo S m) ∧ Below w.heap.size w wr) (fun i _ => q - (intOf i).toNat)
      case atStart => exact ⟨0, Nat.zero_le _, rfl, (World.rowIs_made _ _ _ _).congr (fun i hi => by simp [upTo]), (Below.refl _ _).alloc (Nat.le_refl _) _⟩
      case round =>
        obtain ⟨m, hm, rfl, hrow, hbel⟩ := hrel
        by_cases hlt2 : m < q
        · rcases HC.out with h0 | ⟨b, o, rfl, hb, hcell⟩
          · omega
          have hcx : wr.cell? ⟨b, o + m, none⟩ = some (.string (S m)) := (hbel.cell (by exact hb)).trans (hcell m (by omega))
          have hfz := hrow.frozen m
          have hrc := hrow.cell (show m < k + 1 by omega)
          have HR := hidm hrow
          clear hcell hrow
          go_wp2
          go_roundw
          case rel => exact ⟨m + 1, by omega, by go_num, (HR.out.set m _).congr (fun j _ => upTo_next S m j), hbel.setCell (Nat.le_refl _) _⟩
          case measure => simp [intOf]; omega
        · have hme : m = q := by omega
          subst hme
          have hfz := hrow.frozen m
          have hrc := hrow.cell (show m < k + 1 by omega)
          have HR := hidm hrow
          clear hrow
          go_wp2
          go_loopw [11] (fun i wr => ∃ l : Nat, m ≤ l ∧ l ≤ k ∧ i = .int .i64 l ∧ wr.rowIs w.heap.size 24 (k + 1) (moved S m x l) ∧ Below w.heap.size w wr) (fun i _ => k - (intOf i).toNat)
          case atStart => exact ⟨m, Nat.le_refl _, hqk, rfl, (HR.out.set m _).congr (fun j _ => moved_start S m x j), hbel.setCell (Nat.le_refl _) _⟩
          case round =>
            obtain ⟨l, hml, hlk, rfl, hrow, hbel2⟩ := hrel
            clear hfz hrc HR hbel
            by_cases hlt3 : l < k
            · rcases HC.out with h0 | ⟨b, o, rfl, hb, hcell⟩
              · omega
              have hcx : wr.cell? ⟨b, o + l, none⟩ = some (.string (S l)) := (hbel2.cell (by exact hb)).trans (hcell l hlt3)
              have hfz := hrow.frozen (l + 1)
              have hrc := hrow.cell (show l + 1 < k + 1 by omega)
              have HR := hidm hrow
              clear hcell hrow
              go_wp2
              go_roundw
              case rel => exact ⟨l + 1, by omega, by omega, by go_num, (HR.out.set (l + 1) _).congr (fun j _ => moved_next S m x l j hml), hbel2.setCell (Nat.le_refl _) _⟩
              case measure => simp [intOf]; omega
            · have hle : l = k := by omega
              subst hle
              have HG := hidm (string_any (some ⟨w.heap.size, 0, none⟩) (l + 1) (l + 1) (putIn S m x) wr (by omega) (Or.inr ⟨w.heap.size, 0, rfl, hrow.lt, fun j hj => by
                rw [Nat.zero_add, hrow.cell hj, moved, if_pos (by omega)]⟩) (Nat.le_trans (joined_le _ _) (by rw [tot_putIn S m l x hqk]; omega)))
              clear hrow
              go_wp2_with fail
              refine (Hid.out HG).mono ?_
              rintro e w3 ⟨rfl, hb3⟩
              clear HG
              have hbel3 : Below w.heap.size w w3 := hbel2.trans (hb3.mono hbel2.size)
              clear hb3 hbel2
              have HP := hidm (joined_putIn S m l x hqk)
              have hj1 : (joined S m).length ≤ 1048576 := Nat.le_trans (joined_le _ _) (Nat.le_trans (tot_mono S m l hqk) (by omega))
              have hj2 : (joined (fun j => S (m + j)) (l - m)).length ≤ 1048576 := by
                refine Nat.le_trans (joined_le _ _) ?_
                have := tot_shift S m (l - m)
                rw [show m + (l - m) = l by omega] at this
                omega
              by_cases hm0 : 0 < m
              · rcases HC.out with h0 | ⟨b, o, rfl, hb, hcell⟩
                · omega
                have H1 := hidm (string_any (some ⟨b, o, none⟩) m c S w3 (by omega) (Or.inr ⟨b, o, rfl, Nat.lt_of_lt_of_le hb hbel3.size, fun j hj => (hbel3.cell (by exact hb)).trans (hcell j (by omega))⟩) (by omega))
                go_wp2_with fail
                refine (Hid.out H1).mono ?_
                rintro e w4 ⟨rfl, hb4⟩
                clear H1
                have hbel4 : Below w.heap.size w w4 := hbel3.trans (hb4.mono hbel3.size)
                clear hb4 hbel3
                by_cases hml2 : m < l
                · have H2 := hidm (string_any (some ⟨b, o + m, none⟩) (l - m) (c - m) (fun j => S (m + j)) w4 (by omega) (Or.inr ⟨b, o + m, rfl, Nat.lt_of_lt_of_le hb hbel4.size, fun j hj => by
                    rw [Nat.add_assoc]; exact (hbel4.cell (by exact hb)).trans (hcell (m + j) (by omega))⟩) (by omega))
                  clear hcell
                  go_wp2_with fail
                  refine (Hid.out H2).mono ?_
                  rintro e w5 ⟨rfl, hb5⟩
                  clear H2
                  go_wp2
                  go_ret
                  refine ⟨?_, hbel4.trans (hb5.mono hbel4.size)⟩
                  exact ret_true (same_mid (by rw [HP.out, if_pos hm0, if_pos hml2]))
                · go_wp2
                  go_ret
                  exact ⟨ret_true (same_end (by rw [HP.out, if_pos hm0, if_neg hml2, List.append_nil])), hbel4⟩
              · have hmz : m = 0 := by omega
                subst hmz
                by_cases hml2 : 0 < l
                · rcases HC.out with h0 | ⟨b, o, rfl, hb, hcell⟩
                  · omega
                  have H2 := hidm (string_any (some ⟨b, o, none⟩) l c S w3 (by omega) (Or.inr ⟨b, o, rfl, Nat.lt_of_lt_of_le hb hbel3.size, fun j hj => (hbel3.cell (by exact hb)).trans (hcell j (by omega))⟩) (Nat.le_trans (joined_le _ _) (by omega)))
                  have hj3 : (joined S l).length ≤ 1048576 := Nat.le_trans (joined_le _ _) (by omega)
                  clear hcell
                  go_wp2_with fail
                  refine (Hid.out H2).mono ?_
                  rintro e w5 ⟨rfl, hb5⟩
                  clear H2
                  go_wp2
                  go_ret
                  refine ⟨ret_true (same_start ?_), hbel3.trans (hb5.mono hbel3.size)⟩
                  rw [HP.out, if_neg hm0, if_pos hml2]
                  simp
                · go_wp2
                  go_ret
                  exact ⟨ret_true (same_one (by rw [HP.out, if_neg hm0, if_neg hml2, List.append_nil])), hbel3⟩
end Go.Proofs.Qxb6623403a.Seat
