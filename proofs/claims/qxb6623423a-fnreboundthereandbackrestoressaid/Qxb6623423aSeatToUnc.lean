/- Seat b6623423a: zzToUncles. -/
import Derived.Test.Qxb6623423aSeatToTab
namespace Go.Proofs.Qxb6623423a.Seat
open Go.RowKit

theorem zero82 : (Try.prog.info? 82).map (fun i => (i.zero, i.size, i.bytes)) = some (some (.slice none 0 0), 1, 24) := by kernel_rfl
theorem neNil60 (a : Option Addr) (n c : Nat) (w : World) : (binOp .neq 60 (.slice a n c) (.slice none 0 0)).run Try.prog w = .ok (.bool (!a.isNone)) w := run_neq_slice_nil_any w 60 _ a n c 0 0 Try.underlying60

theorem put3_below {B : Nat} {a w : World} {q o : Nat} {x0 x1 x2 : Value} (hq : B ≤ q) (h : Below B a w) : Below B a (put3 w q o x0 x1 x2) :=
  ((h.setCell (by exact hq) _).setCell (by exact hq) _).setCell (by exact hq) _

set_option maxRecDepth 100000 in
set_option maxHeartbeats 4000000 in
theorem to_uncles (s : Nat) (T : TabU) (a : Option Addr) (c : Nat) (K : Nat → Key) (w : World) (hK : ∀ b, w.heap.size ≤ b → K b = .other) (h : TabUIn w a T) (hT : TabUOk T) :
    Calls Try.prog 16 #[.slice a T.n c] w fun e w' => ∃ (a' : Option Addr) (c' : Nat) (K' : Nat → Key), e = .returned (.slice a' T.n c') ∧ Below w.heap.size w w' ∧ TabUOwn K' s w' a' T ∧
      (∀ b, b < w.heap.size → K' b = K b) ∧ (∀ b, w'.heap.size ≤ b → K' b = .other) := by
  have n1 := eqNil30
  have n2 := neNil60
  have hTn := hT.1
  have m1 := run_make_row' (P := Try.prog) 43 82 (.slice none 0 0) 24 Try.underlying43 zero82 rfl .i64 .i64 T.n (by omega) (by omega)
  have HK := hidm hK
  have HT := hidm hT
  have H := hidm h
  clear hT h hK
  cases a with
  | none =>
    have hn0 : T.n = 0 := by
      rcases H.out.2 with h | ⟨_, _, h, _⟩
      · exact h
      · cases h
    have HN := hidm hn0
    clear hn0
    go_enter Try.func16, Try.ntmps16
    go_wp2
    go_ret
    exact ⟨none, 0, K, congrArg (fun x => Ending.returned (.slice none x 0)) HN.out.symm, Below.refl _ _, ⟨H.out.1, Or.inl HN.out⟩, fun _ _ => rfl, HK.out⟩
  | some ad =>
    go_enter Try.func16, Try.ntmps16
    go_wp2
    go_loopw [4] (fun i wr => ∃ (k : Nat) (K' : Nat → Key), k ≤ T.n ∧ i = .int .i64 k ∧ TT w K T.n (fun i => (T.r i).n) (fun K i w a => RowUOwn K s i w a (T.r i)) k K' wr) (fun i _ => T.n - (intOf i).toNat)
    case atStart => exact ⟨0, _, Nat.zero_le _, rfl, TT.start HK.out _⟩
    case round =>
      obtain ⟨k, K', hk, rfl, tt⟩ := hrel
      by_cases hkn : k < T.n
      · rcases H.out.2 with hz | ⟨b, o, ha, hb, hc⟩
        · omega
        injection ha with ha
        subst ha
        obtain ⟨ra, rc, f0, hRow⟩ := hc k hkn
        have f1 := (tt.bel.cell (by exact hb)).trans f0
        have HF0 := hidm f0
        clear hc f0
        have HRow := hidm hRow
        have hRn : (T.r k).n ≤ 1048576 := HT.out.2 k hkn
        clear hRow
        cases ra with
        | none =>
          have hn0 : (T.r k).n = 0 := by
            rcases HRow.out.2 with h | ⟨_, _, h, _⟩
            · exact h
            · cases h
          have HN := hidm hn0
          clear hn0
          go_wp2
          go_roundw
          case rel => exact ⟨k + 1, K', by omega, by go_num, tt.nil hkn HN.out ⟨HRow.out.1, Or.inl HN.out⟩⟩
          case measure => simp [intOf]; omega
        | some ad1 =>
          obtain ⟨z2, m2⟩ := make_any (P := Try.prog) 82 84 3 48 Try.underlying82 info84 (T.r k).n (by omega) (by omega)
          rename World => wr0
          have hB : w.heap.size ≤ wr0.heap.size := Nat.le_of_lt tt.lt
          go_wp2
          go_loopw [6] (fun i wq => ∃ (d : Nat), d ≤ (T.r k).n ∧ i = .int .i64 d ∧ TT w K T.n (fun i => (T.r i).n) (fun K i w a => RowUOwn K s i w a (T.r i)) k (upd K' wr0.heap.size (.urow s k)) wq ∧ RPU (upd K' wr0.heap.size (.urow s k)) s k wr0.heap.size (T.r k).n (T.r k).u d wq) (fun i _ => (T.r k).n - (intOf i).toNat)
          case atStart =>
            refine ⟨0, Nat.zero_le _, rfl, tt.open (goes_urow s T) _, ?_⟩
            exact ⟨by simp, upd_same _ _ _, Room.made _ _ _ _, all_zero⟩
          case round =>
            clear f1 tt m2
            obtain ⟨d, hd, rfl, tt, rp⟩ := hrel
            have f1 := (tt.bel.cell (by exact hb)).trans HF0.out
            by_cases hdn : d < (T.r k).n
            · rcases (HRow.out.below tt.bel).2 with hz | ⟨b1, o1, ha, hb1, hc1⟩
              · omega
              injection ha with ha
              subst ha
              obtain ⟨p0, p1, p2⟩ := hc1 d hdn
              clear hc1
              have hbw : b < wr.heap.size := Nat.lt_of_lt_of_le hb tt.bel.size
              go_wp2_with fail
              refine (toSlice _ _ _).mono ?_
              rintro e w3 ⟨rfl, hb3⟩
              have hwr : wr.heap.size < w3.heap.size := Nat.lt_of_lt_of_le (by simp) hb3.size
              have e0 := hb3.cell (p := ⟨wr.heap.size, 0, none⟩) (by show wr.heap.size < _; simp)
              have e1 := hb3.cell (p := ⟨wr.heap.size, 1, none⟩) (by show wr.heap.size < _; simp)
              have e2 := hb3.cell (p := ⟨wr.heap.size, 2, none⟩) (by show wr.heap.size < _; simp)
              rw [cells_box (heap_alloc_new _ _)] at e0 e1 e2
              have hfs : ∀ i, w3.frozen? ⟨wr.heap.size, i, none⟩ = false := fun i => (hb3.frozen (by show wr.heap.size < _; simp)).trans (unf_of (heap_alloc_new _ _) i)
              have HB3 : Hid (Below wr.heap.size wr w3) := ((Below.refl _ _).alloc (Nat.le_refl _) _).trans (hb3.mono (by simp))
              clear p0 p1 p2 f1
              have hroom := rp.room.below HB3.out rp.lt
              obtain ⟨v0, r0⟩ := hroom.get (i := d * 3) (by omega)
              obtain ⟨v1, r1⟩ := hroom.get (i := d * 3 + 1) (by omega)
              obtain ⟨v2, r2⟩ := hroom.get (i := d * 3 + 2) (by omega)
              have hfr : ∀ i, w3.frozen? ⟨wr0.heap.size, i, none⟩ = false := hroom.2
              have hq : wr0.heap.size < wr.heap.size := rp.lt
              clear hroom hb3
              simp at e0 e1 e2
              go_wp2
              go_roundw
              case rel =>
                exact ⟨d + 1, by omega, by go_num, tt.step (goes_urow s T) (rp.kp ((HB3.out.setCell (Nat.le_refl _) _).setCell (Nat.le_refl _) _)) (put3_below hB (((HB3.out.setCell (Nat.le_refl _) _).setCell (Nat.le_refl _) _).mono (Nat.le_of_lt tt.lt))), rp.step hdn ((HB3.out.setCell (Nat.le_refl _) _).setCell (Nat.le_refl _) _)⟩
              case measure => simp [intOf]; omega
            · have hde : d = (T.r k).n := by omega
              subst hde
              have c1 := tt.rest k (Nat.le_refl _) hkn
              have hfr : ∀ i, wr.frozen? ⟨w.heap.size, i, none⟩ = false := tt.unf
              go_wp2
              go_roundw
              case rel =>
                exact ⟨k + 1, _, by omega, by go_num, tt.shut (goes_urow s T) hkn _ _ (rp.done HRow.out.1.symm)⟩
              case measure => simp [intOf]; omega
      · have hke : k = T.n := by omega
        subst hke
        go_wp2
        go_ret
        exact ⟨_, _, K', rfl, tt.bel, ⟨H.out.1, Or.inr ⟨_, rfl, tt.lt, tt.key, tt.rows⟩⟩, tt.old, tt.new⟩
end Go.Proofs.Qxb6623423a.Seat
