/- Seat b6623423a: zzUnclesMatch at two tables of one content. -/
import Derived.Test.Qxb6623423aSeatTabM
namespace Go.Proofs.Qxb6623423a.Seat
open Go.RowKit

set_option maxRecDepth 100000 in
set_option maxHeartbeats 4000000 in
theorem uncles_match (T : TabU) (a a' : Option Addr) (c c' : Nat) (f t : ByteArray) (w : World) (h1 : TabUIn w a T) (h2 : TabUIn w a' T) (hT : TabUOk T) :
    Calls Try.prog 21 #[.slice a T.n c, .slice a' T.n c', .string f, .string t, .bool false] w fun e w' => e = .returned (.bool true) ∧ Below w.heap.size w w' := by
  have n1 := eqNil43
  have n2 := eqNil30
  have n3 := eqNil82
  have n4 := eqNil60
  have H1 := hidm h1
  have H2 := hidm h2
  have HT := hidm hT
  have hTn := hT.1
  have z1 : (a.isNone == a'.isNone) = true := by rw [h1.1, h2.1]; simp
  clear h1 h2 hT
  go_enter Try.func21, Try.ntmps21
  go_wp2
  go_loopw [11] (fun i wr => ∃ k : Nat, k ≤ T.n ∧ i = .int .i64 k ∧ Below w.heap.size w wr) (fun i _ => T.n - (intOf i).toNat)
  case atStart => exact ⟨0, Nat.zero_le _, rfl, Below.refl _ _⟩
  case round =>
    obtain ⟨k, hk, rfl, hbr⟩ := hrel
    by_cases hkn : k < T.n
    · rcases H1.out.2 with hz | ⟨b, o, rfl, hb, hcell⟩
      · omega
      rcases H2.out.2 with hz | ⟨b', o', rfl, hb', hcell'⟩
      · omega
      obtain ⟨ra, rc, hr0, hRow⟩ := hcell k hkn
      obtain ⟨ra', rc', hr0', hRow'⟩ := hcell' k hkn
      have hr : wr.cell? ⟨b, o + k, none⟩ = some (.slice ra (T.r k).n rc) := (hbr.cell (by exact hb)).trans hr0
      have hr' : wr.cell? ⟨b', o' + k, none⟩ = some (.slice ra' (T.r k).n rc') := (hbr.cell (by exact hb')).trans hr0'
      have z2 : (ra.isNone == ra'.isNone) = true := by rw [hRow.1, hRow'.1]; simp
      have hRn : (T.r k).n ≤ 1048576 := HT.out.2 k hkn
      have HRow := hidm hRow
      have HRow' := hidm hRow'
      clear hcell hcell' hr0 hr0' hRow hRow'
      go_wp2
      go_loopw [14] (fun i wr => ∃ d : Nat, d ≤ (T.r k).n ∧ i = .int .i64 d ∧ Below w.heap.size w wr) (fun i _ => (T.r k).n - (intOf i).toNat)
      case atStart => exact ⟨0, Nat.zero_le _, rfl, hbr⟩
      case round =>
        clear hr hr' hbr
        obtain ⟨d, hd, rfl, hbr⟩ := hrel
        by_cases hdn : d < (T.r k).n
        · rcases (HRow.out.below hbr).2 with hz | ⟨b1, o1, rfl, hb1, hc1⟩
          · omega
          rcases (HRow'.out.below hbr).2 with hz | ⟨b2, o2, rfl, hb2, hc2⟩
          · omega
          obtain ⟨p0, p1, p2⟩ := hc1 d hdn
          obtain ⟨q0, q1, q2⟩ := hc2 d hdn
          clear hc1 hc2
          go_wp2
          go_quiet (fail)
          go_wp2
          go_region_held3 (fun w' => w'.cell? ⟨b1, o1 + d * 3 + 1, none⟩ = some (.string ((T.r k).u d).lo) ∧ w'.cell? ⟨b1, o1 + d * 3 + 2, none⟩ = some (.string ((T.r k).u d).hi) ∧ w'.cell? ⟨b2, o2 + d * 3 + 1, none⟩ = some (.string ((T.r k).u d).lo) ∧ w'.cell? ⟨b2, o2 + d * 3 + 2, none⟩ = some (.string ((T.r k).u d).hi))
            ((refine (fun (hb : Below wr.heap.size wr _) => ⟨(hb.cell (by exact hb1)).trans p1, (hb.cell (by exact hb1)).trans p2, (hb.cell (by exact hb2)).trans q1, (hb.cell (by exact hb2)).trans q2⟩) ?_; repeat (first | exact Below.refl _ _ | apply Below.drew | apply below_drewN | (refine Below.alloc ?_ (by simp; try omega) _))))
            (first | (go_at_call 19; refine (want_x _ _ _ _ _).mono ?_; rintro e w1 ⟨rfl, x1, x2, rfl⟩) | (go_at_call 18; refine (same_x _ _ _).mono ?_; rintro e w2 ⟨rfl, x3, x4, rfl⟩))
          go_wp2
          go_roundw
          case rel =>
            (repeat apply Exists.intro)
            refine ⟨⟨d + 1, by omega, by go_num, hbr.trans (Below.mono (B := wr.heap.size) ?_ hbr.size)⟩, rfl⟩
            repeat (first | exact Below.refl _ _ | apply Below.drew | apply below_drewN | (refine Below.alloc ?_ (by simp; try omega) _))
          case measure => simp [intOf]; omega
        · go_wp2
          go_roundw
          case rel => exact ⟨k + 1, by omega, by go_num, hbr⟩
          case measure => simp [intOf]; omega
    · go_wp2
      go_ret
      exact ⟨rfl, hbr⟩
end Go.Proofs.Qxb6623423a.Seat
