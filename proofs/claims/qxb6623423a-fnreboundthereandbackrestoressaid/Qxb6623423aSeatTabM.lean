/- Seat b6623423a: zzTableMatches, zzUnclesMatch at two tables of one content. -/
import Derived.Test.Qxb6623423aSeatEntM
import Derived.Test.Qxb6623423aSeatFind
namespace Go.Proofs.Qxb6623423a.Seat
open Go.RowKit

theorem eqNil41 (a : Option Addr) (n c : Nat) (w : World) : (binOp .eql 41 (.slice a n c) (.slice none 0 0)).run Try.prog w = .ok (.bool a.isNone) w := Lib.run_eql_slice_nil w 41 _ a n c 0 0 Try.underlying41
theorem eqNil28 (a : Option Addr) (n c : Nat) (w : World) : (binOp .eql 28 (.slice a n c) (.slice none 0 0)).run Try.prog w = .ok (.bool a.isNone) w := Lib.run_eql_slice_nil w 28 _ a n c 0 0 Try.underlying28
theorem eqNil76 (a : Option Addr) (n c : Nat) (w : World) : (binOp .eql 76 (.slice a n c) (.slice none 0 0)).run Try.prog w = .ok (.bool a.isNone) w := Lib.run_eql_slice_nil w 76 _ a n c 0 0 Try.underlying76
theorem eqNil55 (a : Option Addr) (n c : Nat) (w : World) : (binOp .eql 55 (.slice a n c) (.slice none 0 0)).run Try.prog w = .ok (.bool a.isNone) w := Lib.run_eql_slice_nil w 55 _ a n c 0 0 Try.underlying55
theorem eqNil43 (a : Option Addr) (n c : Nat) (w : World) : (binOp .eql 43 (.slice a n c) (.slice none 0 0)).run Try.prog w = .ok (.bool a.isNone) w := Lib.run_eql_slice_nil w 43 _ a n c 0 0 Try.underlying43
theorem eqNil30 (a : Option Addr) (n c : Nat) (w : World) : (binOp .eql 30 (.slice a n c) (.slice none 0 0)).run Try.prog w = .ok (.bool a.isNone) w := Lib.run_eql_slice_nil w 30 _ a n c 0 0 Try.underlying30
theorem eqNil82 (a : Option Addr) (n c : Nat) (w : World) : (binOp .eql 82 (.slice a n c) (.slice none 0 0)).run Try.prog w = .ok (.bool a.isNone) w := Lib.run_eql_slice_nil w 82 _ a n c 0 0 Try.underlying82
theorem eqNil60 (a : Option Addr) (n c : Nat) (w : World) : (binOp .eql 60 (.slice a n c) (.slice none 0 0)).run Try.prog w = .ok (.bool a.isNone) w := Lib.run_eql_slice_nil w 60 _ a n c 0 0 Try.underlying60

set_option maxRecDepth 100000 in
set_option maxHeartbeats 4000000 in
theorem table_matches (T : TabE) (a a' : Option Addr) (c c' : Nat) (f t : ByteArray) (w : World) (h1 : TabIn w a T) (h2 : TabIn w a' T) (hT : TabOk T) :
    Calls Try.prog 20 #[.slice a T.n c, .slice a' T.n c', .string f, .string t, .bool false] w fun e w' => e = .returned (.bool true) ∧ Below w.heap.size w w' := by
  have n1 := eqNil41
  have n2 := eqNil28
  have n3 := eqNil76
  have n4 := eqNil55
  have H1 := hidm h1
  have H2 := hidm h2
  have HT := hidm hT
  have hTn := hT.1
  have z1 : (a.isNone == a'.isNone) = true := by rw [h1.1, h2.1]; simp
  clear h1 h2 hT
  go_enter Try.func20, Try.ntmps20
  go_wp2
  go_loopw [11] (fun i wr => ∃ k : Nat, k ≤ T.n ∧ i = .int .i64 k ∧ Below w.heap.size w wr) (fun i _ => T.n - (intOf i).toNat)
  case atStart => exact ⟨0, Nat.zero_le _, rfl, Below.refl _ _⟩
  case round =>
    obtain ⟨k, hk, rfl, hbr⟩ := hrel
    by_cases hkn : k < T.n
    · rcases H1.out.2 with hz | ⟨b, o, rfl, hb, hcell⟩
      · omega
      rcases H2.out.2 with hz | ⟨b', o', rfl, hb', hcell'⟩
      · omega
      obtain ⟨ra, rc, hr0, hRow⟩ := hcell k hkn
      obtain ⟨ra', rc', hr0', hRow'⟩ := hcell' k hkn
      have hr : wr.cell? ⟨b, o + k, none⟩ = some (.slice ra (T.r k).n rc) := (hbr.cell (by exact hb)).trans hr0
      have hr' : wr.cell? ⟨b', o' + k, none⟩ = some (.slice ra' (T.r k).n rc') := (hbr.cell (by exact hb')).trans hr0'
      have z2 : (ra.isNone == ra'.isNone) = true := by rw [hRow.1, hRow'.1]; simp
      have hRn : (T.r k).n ≤ 1048576 := (HT.out.2 k hkn).1
      have HRow := hidm hRow
      have HRow' := hidm hRow'
      clear hcell hcell' hr0 hr0' hRow hRow'
      go_wp2
      go_loopw [14] (fun i wr => ∃ d : Nat, d ≤ (T.r k).n ∧ i = .int .i64 d ∧ Below w.heap.size w wr) (fun i _ => (T.r k).n - (intOf i).toNat)
      case atStart => exact ⟨0, Nat.zero_le _, rfl, hbr⟩
      case round =>
        clear hr hr' hbr
        obtain ⟨d, hd, rfl, hbr⟩ := hrel
        by_cases hdn : d < (T.r k).n
        · rcases (HRow.out.below hbr).2 with hz | ⟨b1, o1, rfl, hb1, hc1⟩
          · omega
          rcases (HRow'.out.below hbr).2 with hz | ⟨b2, o2, rfl, hb2, hc2⟩
          · omega
          obtain ⟨ca, sa, cc, sc, ⟨p0, p1, p2, p3, p4, p5, p6⟩, hE⟩ := hc1 d hdn
          obtain ⟨ca', sa', cc', sc', ⟨q0, q1, q2, q3, q4, q5, q6⟩, hE'⟩ := hc2 d hdn
          have HE := hidm hE
          have HE' := hidm hE'
          have HEO := hidm ((HT.out.2 k hkn).2 d hdn)
          clear hc1 hc2 hE hE'
          go_wp2
          go_region_held3 (fun w' => w'.cell? ⟨b1, o1 + d * 7, none⟩ = some (.string ((T.r k).e d).peer) ∧ w'.cell? ⟨b1, o1 + d * 7 + 1, none⟩ = some (.string ((T.r k).e d).lo) ∧ w'.cell? ⟨b1, o1 + d * 7 + 2, none⟩ = some (.string ((T.r k).e d).hi) ∧ w'.cell? ⟨b1, o1 + d * 7 + 3, none⟩ = some (.string ((T.r k).e d).plo) ∧ w'.cell? ⟨b1, o1 + d * 7 + 4, none⟩ = some (.string ((T.r k).e d).phi) ∧ w'.cell? ⟨b1, o1 + d * 7 + 5, none⟩ = some (.slice ca ((T.r k).e d).cn cc) ∧ w'.cell? ⟨b1, o1 + d * 7 + 6, none⟩ = some (.slice sa ((T.r k).e d).sn sc) ∧
              w'.cell? ⟨b2, o2 + d * 7, none⟩ = some (.string ((T.r k).e d).peer) ∧ w'.cell? ⟨b2, o2 + d * 7 + 1, none⟩ = some (.string ((T.r k).e d).lo) ∧ w'.cell? ⟨b2, o2 + d * 7 + 2, none⟩ = some (.string ((T.r k).e d).hi) ∧ w'.cell? ⟨b2, o2 + d * 7 + 3, none⟩ = some (.string ((T.r k).e d).plo) ∧ w'.cell? ⟨b2, o2 + d * 7 + 4, none⟩ = some (.string ((T.r k).e d).phi) ∧ w'.cell? ⟨b2, o2 + d * 7 + 5, none⟩ = some (.slice ca' ((T.r k).e d).cn cc') ∧ w'.cell? ⟨b2, o2 + d * 7 + 6, none⟩ = some (.slice sa' ((T.r k).e d).sn sc'))
            ((refine (fun (hb : Below wr.heap.size wr _) => ⟨(hb.cell (by exact hb1)).trans p0, (hb.cell (by exact hb1)).trans p1, (hb.cell (by exact hb1)).trans p2, (hb.cell (by exact hb1)).trans p3, (hb.cell (by exact hb1)).trans p4, (hb.cell (by exact hb1)).trans p5, (hb.cell (by exact hb1)).trans p6, (hb.cell (by exact hb2)).trans q0, (hb.cell (by exact hb2)).trans q1, (hb.cell (by exact hb2)).trans q2, (hb.cell (by exact hb2)).trans q3, (hb.cell (by exact hb2)).trans q4, (hb.cell (by exact hb2)).trans q5, (hb.cell (by exact hb2)).trans q6⟩) ?_; first | assumption | exact Below.refl _ _ | exact Below.drew (Below.refl _ _)))
            (first | (go_at_call 25; refine (entry_matches _ _ _ _ _ _ _ _ _ _ _ _ (by exact HE.out.below (Below.drew (Below.refl _ _))) (by exact HE'.out.below (Below.drew (Below.refl _ _))) HEO.out.1 HEO.out.2).mono ?_; rintro e w2 ⟨rfl, hb2'⟩; have hb3 : Below wr.heap.size wr w2 := (Below.drew (Below.refl _ _)).trans hb2'))
          go_wp2
          go_roundw
          case rel =>
            (repeat apply Exists.intro)
            exact ⟨⟨d + 1, by omega, by go_num, hbr.trans (hb3.mono hbr.size)⟩, rfl⟩
          case measure => simp [intOf]; omega
        · go_wp2
          go_roundw
          case rel => exact ⟨k + 1, by omega, by go_num, hbr⟩
          case measure => simp [intOf]; omega
    · go_wp2
      go_ret
      exact ⟨rfl, hbr⟩
end Go.Proofs.Qxb6623423a.Seat
