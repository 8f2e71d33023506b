/- Seat b6623423a: zzTooBig: some bool. -/
import Derived.Test.Qxb6623423aSeatBox
import Derived.Deep.RegionWith
namespace Go.Proofs.Qxb6623423a.Seat
open Go.RowKit

def IsBool (e : Ending) : Prop := ∃ r, e = .returned (.bool r)

theorem add_same (n k : Int) (w : World) : Calls Try.prog 11 #[.int .i64 n, .int .i64 k] w fun e w' => e = .returned (.int .i64 (zadd n k)) ∧ w = w' :=
  (add_any n k w).mono fun _ _ ⟨h1, h2⟩ => ⟨h1, h2.symm⟩

theorem InB.drewN {w : World} {A : Adr} {D : Plc} {wr : World} (h : InB w A D wr) (n : Nat) : InB w A D (wr.drewN n) := below_drewN h n

set_option maxRecDepth 100000 in
set_option maxHeartbeats 8000000 in
theorem too_big (A : Adr) (D : Plc) (f t : ByteArray) (w : World) (hP : PlIn w A D) (hS : Small D) :
    Calls Try.prog 5 #[.agg (plC A D), .string f, .string t] w fun e w' => IsBool e ∧ Below w.heap.size w w' := by
  have HP := hidm hP
  have hsn := hS.1
  have HSm := hidm hS
  clear hP hS
  have hb0 : InB w A D (w.alloc (.cells (plC A D) 33)) := InB.start
  obtain ⟨_, _, _, c3, c4, c5, c6, c7, _, c9, _, _⟩ := hb0.box
  have c90 := c9 0 (by omega)
  have c91 := c9 1 (by omega)
  clear c9
  go_enter Try.func5, Try.ntmps5
  go_wp2_with (go_at_call 11; refine (add_same _ _ _).mono ?_; rintro e w' ⟨rfl, rfl⟩)
  refine (slice_bytes _ _ _ _).mono ?_
  rintro e w2 ⟨rfl, hb2⟩
  have hb3 := hb0.next hb2
  obtain ⟨_, _, _, _, _, _, d6, d7, _, _, _, _⟩ := hb3.box
  clear hb0 hb2 c3 c4 c5 c6 c7 c90 c91
  go_wp2_with fail
  refine (slice_bytes _ _ _ _).mono ?_
  rintro e w4 ⟨rfl, hb4⟩
  have hb5 := hb3.next hb4
  clear hb3 hb4 d6 d7
  generalize sbytes _ D.plo D.phi = q0
  go_wp2
  · go_ret; exact ⟨⟨_, rfl⟩, hb5.below⟩
  go_loopw [7, 8] (fun z i wr => ∃ (k : Nat) (q : Int), k ≤ D.sn ∧ i = .int .i64 k ∧ z = .int .i64 q ∧ InB w A D wr) (fun _ i _ => D.sn - (intOf i).toNat)
  case atStart => exact ⟨0, _, Nat.zero_le _, rfl, rfl, hb5⟩
  case round =>
    obtain ⟨k, q, hk, rfl, rfl, hbr⟩ := hrel
    obtain ⟨_, _, _, _, _, _, _, _, c8, _, _, _⟩ := hbr.box
    by_cases hlt : k < D.sn
    · rcases (HP.out.below hbr.below).2.1 with hz | ⟨b, o, ha, hb, hcell⟩
      · omega
      rw [ha] at c8
      obtain ⟨s0, s1, s2, _, _⟩ := hcell k hlt
      clear hcell
      go_wp2
      go_quiet ((go_at_call 11; exact Calls.quiet_of_same (add_any _ _ _)))
      go_wp2_with fail
      refine (slice_bytes _ _ _ _).mono ?_
      rintro e w6 ⟨rfl, hb6⟩
      have hb7 := (hbr.drewN nq).next hb6
      clear hb6 hbr s0 s1 s2 c8
      generalize sbytes _ (D.sl k).lo (D.sl k).hi = q1
      go_wp2
      · go_ret; exact ⟨⟨_, rfl⟩, hb7.below⟩
      · go_roundw
        case rel => exact ⟨k + 1, _, by omega, by go_num, rfl, hb7⟩
        case measure => simp [intOf]; omega
    · go_wp2
      go_loopw [7, 9] (fun z i wr => ∃ (s : Nat) (q : Int), s ≤ 2 ∧ i = .int .i64 s ∧ z = .int .i64 q ∧ InB w A D wr) (fun _ i _ => 2 - (intOf i).toNat)
      case atStart => exact ⟨0, _, Nat.zero_le _, rfl, rfl, hbr⟩
      case round =>
        clear c8 hbr
        obtain ⟨s, q, hs, rfl, rfl, hbr⟩ := hrel
        by_cases hs2 : s < 2
        · obtain ⟨_, _, _, _, _, _, _, _, _, _, c11, _⟩ := hbr.box
          have ct := c11 s hs2
          clear c11
          have hTn : (D.t s).n ≤ 1048576 := (HSm.out.2 s hs2).1.1
          have hs2' : (s : Int) < 2 := by omega
          have HT := hidm (HP.out.2.2.1 s hs2)
          generalize A.ta s = ta at ct HT
          go_wp2
          go_loopw [7, 11] (fun z i wr => ∃ (k : Nat) (q : Int), k ≤ (D.t s).n ∧ i = .int .i64 k ∧ z = .int .i64 q ∧ InB w A D wr) (fun _ i _ => (D.t s).n - (intOf i).toNat)
          case atStart => exact ⟨0, _, Nat.zero_le _, rfl, rfl, hbr⟩
          case round =>
            clear ct hbr
            obtain ⟨k, q, hk, rfl, rfl, hbr⟩ := hrel
            by_cases hkn : k < (D.t s).n
            · rcases HT.out.2 with hz | ⟨b, o, rfl, hb, hcell⟩
              · omega
              obtain ⟨ra, rc, hrc0, hRow⟩ := hcell k hkn
              have hrc : wr.cell? ⟨b, o + k, none⟩ = some (.slice ra ((D.t s).r k).n rc) := (hbr.below.cell (by exact hb)).trans hrc0
              have hRn : ((D.t s).r k).n ≤ 1048576 := ((HSm.out.2 s hs2).1.2 k hkn).1
              have HRow := hidm hRow
              clear hcell hrc0 hRow
              go_wp2_with (go_at_call 11; refine (add_same _ _ _).mono ?_; rintro e w' ⟨rfl, rfl⟩)
              · go_ret; exact ⟨⟨_, rfl⟩, hbr.below⟩
              go_loopw [7, 13] (fun z i wr => ∃ (d : Nat) (q : Int), d ≤ ((D.t s).r k).n ∧ i = .int .i64 d ∧ z = .int .i64 q ∧ InB w A D wr) (fun _ i _ => ((D.t s).r k).n - (intOf i).toNat)
              case atStart => exact ⟨0, _, Nat.zero_le _, rfl, rfl, hbr⟩
              case round =>
                clear hrc hbr
                obtain ⟨d, q, hd, rfl, rfl, hbr⟩ := hrel
                by_cases hdn : d < ((D.t s).r k).n
                · rcases HRow.out.2 with hz | ⟨b', o', rfl, hb', hcell⟩
                  · omega
                  obtain ⟨ca, sa, cc, sc, hEC, hEI⟩ := hcell d hdn
                  have HEC := hidm hEC
                  have HEI := hidm hEI
                  have hSn : (((D.t s).r k).e d).sn ≤ 1048576 := (((HSm.out.2 s hs2).1.2 k hkn).2 d hdn).2
                  have hCn : (((D.t s).r k).e d).cn ≤ 1048576 := (((HSm.out.2 s hs2).1.2 k hkn).2 d hdn).1
                  clear hcell hEC hEI
                  obtain ⟨e0, e1, e2, _, _, _, _⟩ := HEC.out.of (w' := wr) (fun i => hbr.below.cell (by exact hb'))
                  go_wp2
                  go_quiet ((go_at_call 11; exact Calls.quiet_of_same (add_any _ _ _)))
                  go_wp2_with fail
                  refine (slice_bytes _ _ _ _).mono ?_
                  rintro e w4 ⟨rfl, hb4⟩
                  have hb5 := (hbr.drewN nq).next hb4
                  clear hbr hb4 e0 e1 e2
                  generalize sbytes _ (((D.t s).r k).e d).lo (((D.t s).r k).e d).hi = q1
                  obtain ⟨_, _, _, e3, e4, _, _⟩ := HEC.out.of (w' := w4) (fun i => hb5.below.cell (by exact hb'))
                  go_wp2_with fail
                  refine (slice_bytes _ _ _ _).mono ?_
                  rintro e w6 ⟨rfl, hb6⟩
                  have hb7 := hb5.next hb6
                  clear hb5 hb6 e3 e4
                  generalize sbytes _ (((D.t s).r k).e d).plo (((D.t s).r k).e d).phi = q2
                  obtain ⟨_, _, _, _, _, e5, _⟩ := HEC.out.of (w' := w6) (fun i => hb7.below.cell (by exact hb'))
                  go_wp2
                  · go_ret; exact ⟨⟨_, rfl⟩, hb7.below⟩
                  go_loopw [7, 15] (fun z i wr => ∃ (c : Nat) (q : Int), c ≤ (((D.t s).r k).e d).cn ∧ i = .int .i64 c ∧ z = .int .i64 q ∧ InB w A D wr) (fun _ i _ => (((D.t s).r k).e d).cn - (intOf i).toNat)
                  case atStart => exact ⟨0, _, Nat.zero_le _, rfl, rfl, hb7⟩
                  case round =>
                    clear hb7 e5
                    obtain ⟨c, q, hc, rfl, rfl, hbr⟩ := hrel
                    by_cases hcn : c < (((D.t s).r k).e d).cn
                    · rcases (HEI.out.2.2.1.below hbr.below) with hz | ⟨b2, o2, rfl, hb2, hcell⟩
                      · omega
                      have f1 := hcell c hcn
                      clear hcell
                      go_wp2
                      go_quiet ((go_at_call 11; exact Calls.quiet_of_same (add_any _ _ _)))
                      go_wp2
                      · go_ret; exact ⟨⟨_, rfl⟩, (hbr.drewN nq).below⟩
                      · go_roundw
                        case rel => exact ⟨c + 1, _, by omega, by go_num, rfl, hbr.drewN nq⟩
                        case measure => simp [intOf]; omega
                    · obtain ⟨_, _, _, _, _, _, e6⟩ := HEC.out.of (w' := wr) (fun i => hbr.below.cell (by exact hb'))
                      go_wp2
                      go_loopw [7, 17] (fun z i wr => ∃ (c : Nat) (q : Int), c ≤ (((D.t s).r k).e d).sn ∧ i = .int .i64 c ∧ z = .int .i64 q ∧ InB w A D wr) (fun _ i _ => (((D.t s).r k).e d).sn - (intOf i).toNat)
                      case atStart => exact ⟨0, _, Nat.zero_le _, rfl, rfl, hbr⟩
                      case round =>
                        clear hbr e6
                        obtain ⟨c, q, hc, rfl, rfl, hbr⟩ := hrel
                        by_cases hcn : c < (((D.t s).r k).e d).sn
                        · rcases (HEI.out.2.2.2.below hbr.below) with hz | ⟨b2, o2, rfl, hb2, hcell⟩
                          · omega
                          obtain ⟨f1, f2⟩ := hcell c hcn
                          clear hcell
                          go_wp2
                          go_region_with (first | (go_at_call 11; refine (add_same _ _ _).mono ?_; rintro e w' ⟨rfl, rfl⟩) | (go_at_call 12; refine (slice_bytes _ _ _ _).mono ?_; rintro e w4 ⟨rfl, hb4⟩))
                          all_goals (
                            have hb5 : InB w A D _ := (show InB w A D wr.drew from Below.drew hbr).next (by assumption)
                            clear hbr f1 f2
                            generalize sbytes _ ((((D.t s).r k).e d).slo c) ((((D.t s).r k).e d).shi c) = q1
                            go_wp2)
                          all_goals first
                            | (go_ret; exact ⟨⟨_, rfl⟩, hb5.below⟩)
                            | (go_roundw
                               case rel => exact ⟨c + 1, _, by omega, by go_num, rfl, hb5⟩
                               case measure => simp [intOf]; omega)
                        · go_wp2
                          go_roundw
                          case rel => exact ⟨d + 1, _, by omega, by go_num, rfl, hbr⟩
                          case measure => simp [intOf]; omega
                · go_wp2
                  go_roundw
                  case rel => exact ⟨k + 1, _, by omega, by go_num, rfl, hbr⟩
                  case measure => simp [intOf]; omega
            · obtain ⟨_, _, _, _, _, _, _, _, _, _, _, c13⟩ := hbr.box
              have cu := c13 s hs2
              clear c13
              have HU := hidm (HP.out.2.2.2 s hs2)
              have hUn : (D.u s).n ≤ 1048576 := (HSm.out.2 s hs2).2.1
              generalize A.ua s = ua at cu HU
              go_wp2
              go_loopw [7, 19] (fun z i wr => ∃ (k : Nat) (q : Int), k ≤ (D.u s).n ∧ i = .int .i64 k ∧ z = .int .i64 q ∧ InB w A D wr) (fun _ i _ => (D.u s).n - (intOf i).toNat)
              case atStart => exact ⟨0, _, Nat.zero_le _, rfl, rfl, hbr⟩
              case round =>
                clear cu hbr
                obtain ⟨k, q, hk, rfl, rfl, hbr⟩ := hrel
                by_cases hkn : k < (D.u s).n
                · rcases HU.out.2 with hz | ⟨b, o, rfl, hb, hcell⟩
                  · omega
                  obtain ⟨ra, rc, hrc0, hRow⟩ := hcell k hkn
                  have hrc : wr.cell? ⟨b, o + k, none⟩ = some (.slice ra ((D.u s).r k).n rc) := (hbr.below.cell (by exact hb)).trans hrc0
                  have hRn : ((D.u s).r k).n ≤ 1048576 := (HSm.out.2 s hs2).2.2 k hkn
                  have HRow := hidm hRow
                  clear hcell hrc0 hRow
                  go_wp2_with (go_at_call 11; refine (add_same _ _ _).mono ?_; rintro e w' ⟨rfl, rfl⟩)
                  · go_ret; exact ⟨⟨_, rfl⟩, hbr.below⟩
                  go_loopw [7, 21] (fun z i wr => ∃ (d : Nat) (q : Int), d ≤ ((D.u s).r k).n ∧ i = .int .i64 d ∧ z = .int .i64 q ∧ InB w A D wr) (fun _ i _ => ((D.u s).r k).n - (intOf i).toNat)
                  case atStart => exact ⟨0, _, Nat.zero_le _, rfl, rfl, hbr⟩
                  case round =>
                    clear hrc hbr
                    obtain ⟨d, q, hd, rfl, rfl, hbr⟩ := hrel
                    by_cases hdn : d < ((D.u s).r k).n
                    · rcases (HRow.out.below hbr.below).2 with hz | ⟨b', o', rfl, hb', hcell⟩
                      · omega
                      obtain ⟨f0, f1, f2⟩ := hcell d hdn
                      clear hcell
                      go_wp2
                      go_quiet ((go_at_call 11; exact Calls.quiet_of_same (add_any _ _ _)))
                      go_wp2_with fail
                      refine (slice_bytes _ _ _ _).mono ?_
                      rintro e w8 ⟨rfl, hb8⟩
                      have hb9 := (hbr.drewN nq).next hb8
                      clear hbr hb8 f0 f1 f2
                      generalize sbytes _ (((D.u s).r k).u d).lo (((D.u s).r k).u d).hi = q1
                      go_wp2
                      · go_ret; exact ⟨⟨_, rfl⟩, hb9.below⟩
                      · go_roundw
                        case rel => exact ⟨d + 1, _, by omega, by go_num, rfl, hb9⟩
                        case measure => simp [intOf]; omega
                    · go_wp2
                      go_roundw
                      case rel => exact ⟨k + 1, _, by omega, by go_num, rfl, hbr⟩
                      case measure => simp [intOf]; omega
                · go_wp2
                  go_roundw
                  case rel => exact ⟨s + 1, _, by omega, by go_num, rfl, hbr⟩
                  case measure => simp [intOf]; omega
        · go_wp2
          go_ret
          exact ⟨⟨_, rfl⟩, hbr.below⟩
end Go.Proofs.Qxb6623423a.Seat
