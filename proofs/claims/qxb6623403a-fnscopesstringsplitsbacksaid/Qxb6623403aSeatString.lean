/- Seat b6623403a: (Scopes).String joins the scopes by a blank. -/
import Derived.Test.Qxb6623403aSeatBytes
import Derived.Test.Qxb6623403aShelf
import Derived.Test.Qxb6623403aSeatPlain
import Derived.Deep.OwnRows
import Derived.BigCall
namespace Go.Proofs.Qxb6623403a.Seat
open Go.RowKit

theorem info9 : (Try.prog.info? 9).map (fun i => (i.zero, i.size, i.bytes)) = some (some (.string ByteArray.empty), 1, 16) := by kernel_rfl

theorem hidm {p : Prop} (h : p) : Hid p := h

/-- What the new row of names holds behind k rounds. -/
def upTo (S : Nat → ByteArray) (k j : Nat) : Value := if j < k then .string (S j) else .string ByteArray.empty

theorem upTo_next (S : Nat → ByteArray) (k j : Nat) : (if j = k then Value.string (S k) else upTo S k j) = upTo S (k + 1) j := by
  unfold upTo
  by_cases h : j = k
  · subst h; simp
  · by_cases h2 : j < k
    · rw [if_neg h, if_pos h2, if_pos (by omega)]
    · rw [if_neg h, if_neg h2, if_neg (by omega)]

set_option maxHeartbeats 1000000 in
theorem string_any (a : Option Addr) (n c : Nat) (S : Nat → ByteArray) (w : World) (hn : n ≤ 1048576) (hc : Strs w a n S) (hlen : (joined S n).length ≤ 140737488355328) :
    Calls Try.prog 6 #[.slice a n c] w fun e w' => e = .returned (.string ⟨(joined S n).toArray⟩) ∧ Below w.heap.size w w' := by
  have hmk := run_make_row' (P := Try.prog) 28 9 (.string ByteArray.empty) 16 Try.underlying28 info9 rfl .i64 .i64 n (by omega) (by omega)
  have HC : Hid (Strs w a n S) := hc
  have HL : Hid ((joined S n).length ≤ 140737488355328) := hlen
  clear hc hlen
  go_enter Try.func6, Try.ntmps6
  go_wp2
  go_loopw [11] (fun i wr => ∃ k : Nat, k ≤ n ∧ i = .int .i64 k ∧ wr.rowIs w.heap.size 9 n (upTo S k) ∧ Below w.heap.size w wr) (fun i _ => n - (intOf i).toNat)
  case atStart => exact ⟨0, Nat.zero_le _, rfl, (World.rowIs_made _ _ _ _).congr (fun i hi => by simp [upTo]), (Below.refl _ _).alloc (Nat.le_refl _) _⟩
  case round =>
    obtain ⟨k, hk, rfl, hrow, hbel⟩ := hrel
    by_cases hlt : k < n
    · rcases HC.out with h0 | ⟨b, o, rfl, hb, hcell⟩
      · omega
      have hcx : wr.cell? ⟨b, o + k, none⟩ = some (.string (S k)) := (hbel.cell (by exact hb)).trans (hcell k hlt)
      have hfz := hrow.frozen k
      have hrc := hrow.cell hlt
      have HR : Hid (wr.rowIs w.heap.size 9 n (upTo S k)) := hrow
      clear hcell hrow
      go_wp2
      go_roundw
      case rel => exact ⟨k + 1, by omega, by go_num, (HR.out.set k _).congr (fun j _ => upTo_next S k j), hbel.setCell (Nat.le_refl _) _⟩
      case measure => simp [intOf]; omega
    · have hke : k = n := by omega
      subst hke
      have HR : Hid (wr.rowIs w.heap.size 9 k (upTo S k)) := hrow
      have hJ := Try.strings_Join w.heap.size 0 k ((List.range k).map S) ⟨#[32]⟩ wr (by
        intro j x hj
        rw [List.getElem?_map] at hj
        by_cases hjk : j < k
        · rw [List.getElem?_range hjk] at hj
          simp at hj
          subst hj
          have := hrow.cell hjk
          rw [Nat.zero_add, this, upTo, if_pos hjk]
        · rw [List.getElem?_eq_none (by simp; omega)] at hj
          simp at hj) hrow.lt (by simp; omega) (by simp) (by
        rw [List.map_map]
        exact HL.out)
      rw [List.length_map, List.length_range, List.map_map] at hJ
      have HJ := hidm hJ
      clear hrow hJ
      go_wp2_with (go_at_call 8; refine (Hid.out HJ).mono ?_; rintro e w' ⟨rfl, hb2⟩)
      go_ret
      exact ⟨rfl, hbel.trans (hb2.mono hbel.size)⟩
end Go.Proofs.Qxb6623403a.Seat
