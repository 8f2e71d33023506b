/- Seat b6623423a: zzHoldsBound. -/
import Derived.Test.Qxb6623423aSeatBox
namespace Go.Proofs.Qxb6623423a.Seat
open Go.RowKit

set_option maxRecDepth 100000 in
set_option maxHeartbeats 4000000 in
theorem holds_bound (A : Adr) (D : Plc) (x : ByteArray) (w : World) (hP : PlIn w A D) (hS : Small D) :
    Calls Try.prog 6 #[.agg (plC A D), .string x] w fun e w' => (e = .returned (.bool true) ∨ (e = .returned (.bool false) ∧ Clean x D)) ∧ Below w.heap.size w w' := by
  have HP := hidm hP
  have hsn := hS.1
  have HSm := hidm hS
  clear hP hS
  have hb0 : InB w A D (w.alloc (.cells (plC A D) 33)) := InB.start
  obtain ⟨_, _, _, _, _, _, c6, c7, _, _, _, _⟩ := hb0.box
  go_enter Try.func6, Try.ntmps6
  go_wp2_with fail
  refine (touches _ _ _ _).mono ?_
  rintro e w2 ⟨rfl, hb2⟩
  have hb3 := hb0.next hb2
  clear hb0 hb2 c6 c7
  cases htc : (eqS D.plo x || eqS D.phi x)
  rotate_left
  · go_wp2
    go_ret
    exact ⟨Or.inl rfl, hb3.below⟩
  have H0 : Hid (tch D.plo D.phi x = false) := htc
  go_wp2
  go_loopw [5] (fun i wr => ∃ k : Nat, k ≤ D.sn ∧ i = .int .i64 k ∧ Hid (∀ j, j < k → tch (D.sl j).lo (D.sl j).hi x = false) ∧ InB w A D wr) (fun i _ => D.sn - (intOf i).toNat)
  case atStart => exact ⟨0, Nat.zero_le _, rfl, all_zero, hb3⟩
  case round =>
    obtain ⟨k, hk, rfl, H1, hbr⟩ := hrel
    obtain ⟨_, _, _, _, _, _, _, _, c8, _, _, _⟩ := hbr.box
    by_cases hlt : k < D.sn
    · rcases (HP.out.below hbr.below).2.1 with hz | ⟨b, o, ha, hb, hcell⟩
      · omega
      rw [ha] at c8
      obtain ⟨_, s1, s2, _, _⟩ := hcell k hlt
      clear hcell
      go_wp2_with fail
      refine (touches _ _ _ _).mono ?_
      rintro e w4 ⟨rfl, hb4⟩
      have hb5 := hbr.next hb4
      clear hbr hb4 s1 s2 c8
      cases htc : (eqS (D.sl k).lo x || eqS (D.sl k).hi x)
      · have HT : Hid (tch (D.sl k).lo (D.sl k).hi x = false) := htc
        go_wp2
        go_roundw
        case rel => exact ⟨k + 1, by omega, by go_num, all_succ H1.out HT.out, hb5⟩
        case measure => simp [intOf]; omega
      · go_wp2
        go_ret
        exact ⟨Or.inl rfl, hb5.below⟩
    · have hke : k = D.sn := by omega
      subst hke
      go_wp2
      go_loopw [6] (fun i wr => ∃ s : Nat, s ≤ 2 ∧ i = .int .i64 s ∧ Hid (∀ s', s' < s → TabClean x (D.t s') ∧ TabUClean x (D.u s')) ∧ InB w A D wr) (fun i _ => 2 - (intOf i).toNat)
      case atStart => exact ⟨0, Nat.zero_le _, rfl, all_zero, hbr⟩
      case round =>
        clear c8 hbr
        obtain ⟨s, hs, rfl, H2, hbr⟩ := hrel
        by_cases hs2 : s < 2
        · obtain ⟨_, _, _, _, _, _, _, _, _, _, c11, _⟩ := hbr.box
          have ct := c11 s hs2
          clear c11
          have hTn : (D.t s).n ≤ 1048576 := (HSm.out.2 s hs2).1.1
          have hs2' : (s : Int) < 2 := by omega
          have HT := hidm (HP.out.2.2.1 s hs2)
          generalize A.ta s = ta at ct HT
          go_wp2
          go_loopw [8] (fun i wr => ∃ k : Nat, k ≤ (D.t s).n ∧ i = .int .i64 k ∧ Hid (∀ i', i' < k → RowClean x ((D.t s).r i')) ∧ InB w A D wr) (fun i _ => (D.t s).n - (intOf i).toNat)
          case atStart => exact ⟨0, Nat.zero_le _, rfl, all_zero, hbr⟩
          case round =>
            clear ct hbr
            obtain ⟨k, hk, rfl, H3, hbr⟩ := hrel
            by_cases hkn : k < (D.t s).n
            · rcases HT.out.2 with hz | ⟨b, o, rfl, hb, hcell⟩
              · omega
              obtain ⟨ra, rc, hrc0, hRow⟩ := hcell k hkn
              have hrc : wr.cell? ⟨b, o + k, none⟩ = some (.slice ra ((D.t s).r k).n rc) := (hbr.below.cell (by exact hb)).trans hrc0
              have hRn : ((D.t s).r k).n ≤ 1048576 := ((HSm.out.2 s hs2).1.2 k hkn).1
              have HRow := hidm hRow
              clear hcell hrc0 hRow
              go_wp2
              go_loopw [10] (fun i wr => ∃ d : Nat, d ≤ ((D.t s).r k).n ∧ i = .int .i64 d ∧ Hid (∀ d', d' < d → EntClean x (((D.t s).r k).e d')) ∧ InB w A D wr) (fun i _ => ((D.t s).r k).n - (intOf i).toNat)
              case atStart => exact ⟨0, Nat.zero_le _, rfl, all_zero, hbr⟩
              case round =>
                clear hrc hbr
                obtain ⟨d, hd, rfl, H4, hbr⟩ := hrel
                by_cases hdn : d < ((D.t s).r k).n
                · rcases HRow.out.2 with hz | ⟨b', o', rfl, hb', hcell⟩
                  · omega
                  obtain ⟨ca, sa, cc, sc, hEC, hEI⟩ := hcell d hdn
                  have HEC := hidm hEC
                  have HEI := hidm hEI
                  have hSn : (((D.t s).r k).e d).sn ≤ 1048576 := (((HSm.out.2 s hs2).1.2 k hkn).2 d hdn).2
                  clear hcell hEC hEI
                  obtain ⟨_, e1, e2, e3, e4, _, e6⟩ := HEC.out.of (w' := wr) (fun i => hbr.below.cell (by exact hb'))
                  go_wp2_with fail
                  refine (touches _ _ _ _).mono ?_
                  rintro e w4 ⟨rfl, hb4⟩
                  have hb5 := hbr.next hb4
                  clear hbr hb4 e1 e2 e3 e4 e6
                  cases htc : (eqS (((D.t s).r k).e d).lo x || eqS (((D.t s).r k).e d).hi x)
                  rotate_left
                  · go_wp2
                    go_ret
                    exact ⟨Or.inl rfl, hb5.below⟩
                  have HT1 : Hid (tch (((D.t s).r k).e d).lo (((D.t s).r k).e d).hi x = false) := htc
                  obtain ⟨_, _, _, e3, e4, _, _⟩ := HEC.out.of (w' := w4) (fun i => hb5.below.cell (by exact hb'))
                  go_wp2_with fail
                  refine (touches _ _ _ _).mono ?_
                  rintro e w6 ⟨rfl, hb6⟩
                  have hb7 := hb5.next hb6
                  clear hb5 hb6 e3 e4
                  cases htc2 : (eqS (((D.t s).r k).e d).plo x || eqS (((D.t s).r k).e d).phi x)
                  rotate_left
                  · go_wp2
                    go_ret
                    exact ⟨Or.inl rfl, hb7.below⟩
                  have HT2 : Hid (tch (((D.t s).r k).e d).plo (((D.t s).r k).e d).phi x = false) := htc2
                  obtain ⟨_, _, _, _, _, _, e6⟩ := HEC.out.of (w' := w6) (fun i => hb7.below.cell (by exact hb'))
                  have HPR := hidm HEI.out.2.2.2
                  clear HEI HEC
                  go_wp2
                  go_loopw [12] (fun i wr => ∃ c : Nat, c ≤ (((D.t s).r k).e d).sn ∧ i = .int .i64 c ∧ Hid (∀ c', c' < c → tch ((((D.t s).r k).e d).slo c') ((((D.t s).r k).e d).shi c') x = false) ∧ InB w A D wr) (fun i _ => (((D.t s).r k).e d).sn - (intOf i).toNat)
                  case atStart => exact ⟨0, Nat.zero_le _, rfl, all_zero, hb7⟩
                  case round =>
                    clear hb7 e6
                    obtain ⟨c, hc, rfl, H5, hbr⟩ := hrel
                    by_cases hcn : c < (((D.t s).r k).e d).sn
                    · rcases (HPR.out.below hbr.below) with hz | ⟨b2, o2, rfl, hb2, hcell⟩
                      · omega
                      obtain ⟨f1, f2⟩ := hcell c hcn
                      clear hcell
                      go_wp2_with fail
                      refine (touches _ _ _ _).mono ?_
                      rintro e w8 ⟨rfl, hb8⟩
                      have hb9 := hbr.next hb8
                      clear hbr hb8 f1 f2
                      cases htc3 : (eqS ((((D.t s).r k).e d).slo c) x || eqS ((((D.t s).r k).e d).shi c) x)
                      · have HT3 : Hid (tch ((((D.t s).r k).e d).slo c) ((((D.t s).r k).e d).shi c) x = false) := htc3
                        go_wp2
                        go_roundw
                        case rel => exact ⟨c + 1, by omega, by go_num, all_succ H5.out HT3.out, hb9⟩
                        case measure => simp [intOf]; omega
                      · go_wp2
                        go_ret
                        exact ⟨Or.inl rfl, hb9.below⟩
                    · have hce : c = (((D.t s).r k).e d).sn := by omega
                      subst hce
                      go_wp2
                      go_roundw
                      case rel => exact ⟨d + 1, by omega, by go_num, all_succ H4.out ⟨HT1.out, HT2.out, H5.out⟩, hbr⟩
                      case measure => simp [intOf]; omega
                · have hde : d = ((D.t s).r k).n := by omega
                  subst hde
                  go_wp2
                  go_roundw
                  case rel => exact ⟨k + 1, by omega, by go_num, all_succ H3.out H4.out, hbr⟩
                  case measure => simp [intOf]; omega
            · have hke : k = (D.t s).n := by omega
              subst hke
              obtain ⟨_, _, _, _, _, _, _, _, _, _, _, c13⟩ := hbr.box
              have cu := c13 s hs2
              clear c13
              have HU := hidm (HP.out.2.2.2 s hs2)
              have hUn : (D.u s).n ≤ 1048576 := (HSm.out.2 s hs2).2.1
              generalize A.ua s = ua at cu HU
              go_wp2
              go_loopw [14] (fun i wr => ∃ k : Nat, k ≤ (D.u s).n ∧ i = .int .i64 k ∧ Hid (∀ i', i' < k → RowUClean x ((D.u s).r i')) ∧ InB w A D wr) (fun i _ => (D.u s).n - (intOf i).toNat)
              case atStart => exact ⟨0, Nat.zero_le _, rfl, all_zero, hbr⟩
              case round =>
                clear cu hbr
                obtain ⟨k, hk, rfl, H6, hbr⟩ := hrel
                by_cases hkn : k < (D.u s).n
                · rcases HU.out.2 with hz | ⟨b, o, rfl, hb, hcell⟩
                  · omega
                  obtain ⟨ra, rc, hrc0, hRow⟩ := hcell k hkn
                  have hrc : wr.cell? ⟨b, o + k, none⟩ = some (.slice ra ((D.u s).r k).n rc) := (hbr.below.cell (by exact hb)).trans hrc0
                  have hRn : ((D.u s).r k).n ≤ 1048576 := (HSm.out.2 s hs2).2.2 k hkn
                  have HRow := hidm hRow
                  clear hcell hrc0 hRow
                  go_wp2
                  go_loopw [16] (fun i wr => ∃ d : Nat, d ≤ ((D.u s).r k).n ∧ i = .int .i64 d ∧ Hid (∀ d', d' < d → tch (((D.u s).r k).u d').lo (((D.u s).r k).u d').hi x = false) ∧ InB w A D wr) (fun i _ => ((D.u s).r k).n - (intOf i).toNat)
                  case atStart => exact ⟨0, Nat.zero_le _, rfl, all_zero, hbr⟩
                  case round =>
                    clear hrc hbr
                    obtain ⟨d, hd, rfl, H7, hbr⟩ := hrel
                    by_cases hdn : d < ((D.u s).r k).n
                    · rcases (HRow.out.below hbr.below).2 with hz | ⟨b', o', rfl, hb', hcell⟩
                      · omega
                      obtain ⟨_, f1, f2⟩ := hcell d hdn
                      clear hcell
                      go_wp2_with fail
                      refine (touches _ _ _ _).mono ?_
                      rintro e w8 ⟨rfl, hb8⟩
                      have hb9 := hbr.next hb8
                      clear hbr hb8 f1 f2
                      cases htc3 : (eqS (((D.u s).r k).u d).lo x || eqS (((D.u s).r k).u d).hi x)
                      · have HT3 : Hid (tch (((D.u s).r k).u d).lo (((D.u s).r k).u d).hi x = false) := htc3
                        go_wp2
                        go_roundw
                        case rel => exact ⟨d + 1, by omega, by go_num, all_succ H7.out HT3.out, hb9⟩
                        case measure => simp [intOf]; omega
                      · go_wp2
                        go_ret
                        exact ⟨Or.inl rfl, hb9.below⟩
                    · have hde : d = ((D.u s).r k).n := by omega
                      subst hde
                      go_wp2
                      go_roundw
                      case rel => exact ⟨k + 1, by omega, by go_num, all_succ H6.out H7.out, hbr⟩
                      case measure => simp [intOf]; omega
                · have hke : k = (D.u s).n := by omega
                  subst hke
                  go_wp2
                  go_roundw
                  case rel => exact ⟨s + 1, by omega, by go_num, all_succ H2.out ⟨H3.out, H6.out⟩, hbr⟩
                  case measure => simp [intOf]; omega
        · have hse : s = 2 := by omega
          subst hse
          go_wp2
          go_ret
          exact ⟨Or.inr ⟨rfl, H0.out, H1.out, H2.out⟩, hbr.below⟩
end Go.Proofs.Qxb6623423a.Seat
