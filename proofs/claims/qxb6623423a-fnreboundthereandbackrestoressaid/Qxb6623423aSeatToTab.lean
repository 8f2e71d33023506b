/- Seat b6623423a: zzToTable. -/
import Derived.Test.Qxb6623423aSeatTT
namespace Go.Proofs.Qxb6623423a.Seat
open Go.RowKit

theorem zero76 : (Try.prog.info? 76).map (fun i => (i.zero, i.size, i.bytes)) = some (some (.slice none 0 0), 1, 24) := by kernel_rfl
theorem neNil55 (a : Option Addr) (n c : Nat) (w : World) : (binOp .neq 55 (.slice a n c) (.slice none 0 0)).run Try.prog w = .ok (.bool (!a.isNone)) w := run_neq_slice_nil_any w 55 _ a n c 0 0 Try.underlying55

theorem put7_below {B : Nat} {a w : World} {q o : Nat} {x0 x1 x2 x3 x4 x5 x6 : Value} (hq : B ≤ q) (h : Below B a w) : Below B a (put7 w q o x0 x1 x2 x3 x4 x5 x6) :=
  ((((((h.setCell (by exact hq) _).setCell (by exact hq) _).setCell (by exact hq) _).setCell (by exact hq) _).setCell (by exact hq) _).setCell (by exact hq) _).setCell (by exact hq) _

set_option maxRecDepth 100000 in
set_option maxHeartbeats 4000000 in
theorem to_table (s : Nat) (T : TabE) (a : Option Addr) (c : Nat) (K : Nat → Key) (w : World) (hK : ∀ b, w.heap.size ≤ b → K b = .other) (h : TabIn w a T) (hT : TabOk T) :
    Calls Try.prog 15 #[.slice a T.n c] w fun e w' => ∃ (a' : Option Addr) (c' : Nat) (K' : Nat → Key), e = .returned (.slice a' T.n c') ∧ Below w.heap.size w w' ∧ TabOwn K' s w' a' T ∧
      (∀ b, b < w.heap.size → K' b = K b) ∧ (∀ b, w'.heap.size ≤ b → K' b = .other) := by
  have n1 := eqNil28
  have n2 := neNil55
  have hTn := hT.1
  have m1 := run_make_row' (P := Try.prog) 41 76 (.slice none 0 0) 24 Try.underlying41 zero76 rfl .i64 .i64 T.n (by omega) (by omega)
  have HK := hidm hK
  have HT := hidm hT
  have H := hidm h
  clear hT h hK
  cases a with
  | none =>
    have hn0 : T.n = 0 := by
      rcases H.out.2 with h | ⟨_, _, h, _⟩
      · exact h
      · cases h
    have HN := hidm hn0
    clear hn0
    go_enter Try.func15, Try.ntmps15
    go_wp2
    go_ret
    exact ⟨none, 0, K, congrArg (fun x => Ending.returned (.slice none x 0)) HN.out.symm, Below.refl _ _, ⟨H.out.1, Or.inl HN.out⟩, fun _ _ => rfl, HK.out⟩
  | some ad =>
    go_enter Try.func15, Try.ntmps15
    go_wp2
    go_loopw [4] (fun i wr => ∃ (k : Nat) (K' : Nat → Key), k ≤ T.n ∧ i = .int .i64 k ∧ TT w K T.n (fun i => (T.r i).n) (fun K i w a => RowOwn K s i w a (T.r i)) k K' wr) (fun i _ => T.n - (intOf i).toNat)
    case atStart => exact ⟨0, _, Nat.zero_le _, rfl, TT.start HK.out _⟩
    case round =>
      obtain ⟨k, K', hk, rfl, tt⟩ := hrel
      by_cases hkn : k < T.n
      · rcases H.out.2 with hz | ⟨b, o, ha, hb, hc⟩
        · omega
        injection ha with ha
        subst ha
        obtain ⟨ra, rc, f0, hRow⟩ := hc k hkn
        have f1 := (tt.bel.cell (by exact hb)).trans f0
        have HF0 := hidm f0
        clear hc f0
        have HRow := hidm hRow
        have hRn : (T.r k).n ≤ 1048576 := (HT.out.2 k hkn).1
        clear hRow
        cases ra with
        | none =>
          have hn0 : (T.r k).n = 0 := by
            rcases HRow.out.2 with h | ⟨_, _, h, _⟩
            · exact h
            · cases h
          have HN := hidm hn0
          clear hn0
          go_wp2
          go_roundw
          case rel => exact ⟨k + 1, K', by omega, by go_num, tt.nil hkn HN.out ⟨HRow.out.1, Or.inl HN.out⟩⟩
          case measure => simp [intOf]; omega
        | some ad1 =>
          obtain ⟨z2, m2⟩ := make_any (P := Try.prog) 76 80 7 128 Try.underlying76 info80 (T.r k).n (by omega) (by omega)
          rename World => wr0
          have hB : w.heap.size ≤ wr0.heap.size := Nat.le_of_lt tt.lt
          go_wp2
          go_loopw [6] (fun i wq => ∃ (d : Nat), d ≤ (T.r k).n ∧ i = .int .i64 d ∧ TT w K T.n (fun i => (T.r i).n) (fun K i w a => RowOwn K s i w a (T.r i)) k (upd K' wr0.heap.size (.row s k)) wq ∧ RP (upd K' wr0.heap.size (.row s k)) s k wr0.heap.size (T.r k).n (T.r k).e d wq) (fun i _ => (T.r k).n - (intOf i).toNat)
          case atStart =>
            refine ⟨0, Nat.zero_le _, rfl, tt.open (goes_row s T) _, ?_⟩
            exact ⟨by simp, upd_same _ _ _, Room.made _ _ _ _, all_zero⟩
          case round =>
            clear f1 tt m2
            obtain ⟨d, hd, rfl, tt, rp⟩ := hrel
            have f1 := (tt.bel.cell (by exact hb)).trans HF0.out
            by_cases hdn : d < (T.r k).n
            · rcases (HRow.out.below tt.bel).2 with hz | ⟨b1, o1, ha, hb1, hc1⟩
              · omega
              injection ha with ha
              subst ha
              obtain ⟨ca, sa, cc, sc, ⟨p0, p1, p2, p3, p4, p5, p6⟩, hE⟩ := hc1 d hdn
              have HE := hidm hE
              have HEO := hidm ((HT.out.2 k hkn).2 d hdn)
              clear hc1 hE
              go_wp2_with fail
              refine (to_entry _ _ _ _ _ _ HE.out HEO.out.1 HEO.out.2).mono ?_
              rintro e w3 ⟨ca', sa', cc', sc', rfl, hb3, g1, g2, g3, g4⟩
              have HB3 := hidm hb3
              have HG := hidm (And.intro g1 (And.intro g2 (And.intro g3 g4)))
              clear p0 p1 p2 p3 p4 p5 p6 f1 g1 g2 g3 g4
              have hroom := rp.room.below hb3 rp.lt
              obtain ⟨v0, r0⟩ := hroom.get (i := d * 7) (by omega)
              obtain ⟨v1, r1⟩ := hroom.get (i := d * 7 + 1) (by omega)
              obtain ⟨v2, r2⟩ := hroom.get (i := d * 7 + 2) (by omega)
              obtain ⟨v3, r3⟩ := hroom.get (i := d * 7 + 3) (by omega)
              obtain ⟨v4, r4⟩ := hroom.get (i := d * 7 + 4) (by omega)
              obtain ⟨v5, r5⟩ := hroom.get (i := d * 7 + 5) (by omega)
              obtain ⟨v6, r6⟩ := hroom.get (i := d * 7 + 6) (by omega)
              have hfr : ∀ i, w3.frozen? ⟨wr0.heap.size, i, none⟩ = false := hroom.2
              clear hroom hb3
              go_wp2
              go_roundw
              case rel =>
                exact ⟨d + 1, by omega, by go_num, tt.step (goes_row s T) (rp.kp HB3.out) (put7_below hB (HB3.out.mono (Nat.le_of_lt tt.lt))), rp.step hdn tt.new HB3.out HG.out.1 HG.out.2.1 HG.out.2.2.1 HG.out.2.2.2⟩
              case measure => simp [intOf]; omega
            · have hde : d = (T.r k).n := by omega
              subst hde
              have c1 := tt.rest k (Nat.le_refl _) hkn
              have hfr : ∀ i, wr.frozen? ⟨w.heap.size, i, none⟩ = false := tt.unf
              go_wp2
              go_roundw
              case rel =>
                exact ⟨k + 1, _, by omega, by go_num, tt.shut (goes_row s T) hkn _ _ (rp.done HRow.out.1.symm)⟩
              case measure => simp [intOf]; omega
      · have hke : k = T.n := by omega
        subst hke
        go_wp2
        go_ret
        exact ⟨_, _, K', rfl, tt.bel, ⟨H.out.1, Or.inr ⟨_, rfl, tt.lt, tt.key, tt.rows⟩⟩, tt.old, tt.new⟩
end Go.Proofs.Qxb6623423a.Seat
