/- Seat b6623423a: zzWantFlags. -/
import Derived.Test.Qxb6623423aSeatData
import Derived.Test.Qxb6623423aSeatUpto
namespace Go.Proofs.Qxb6623423a.Seat
open Go.RowKit

/-- A pair has the bound x. -/
def tch (lo hi x : ByteArray) : Bool := eqS lo x || eqS hi x

/-- All lengths are small. -/
def Small (D : Plc) : Prop := D.sn ≤ 1048576 ∧ ∀ s, s < 2 → ((D.t s).n ≤ 1048576 ∧ ∀ i, i < (D.t s).n → ((D.t s).r i).n ≤ 1048576 ∧ ∀ d, d < ((D.t s).r i).n → (((D.t s).r i).e d).cn ≤ 1048576 ∧ (((D.t s).r i).e d).sn ≤ 1048576) ∧
  ((D.u s).n ≤ 1048576 ∧ ∀ i, i < (D.u s).n → ((D.u s).r i).n ≤ 1048576)

/-- Somewhere up to (s, i, d) an entry's span has the bound x. -/
def NB (D : Plc) (x : ByteArray) (s i d : Nat) : Prop := Upto (fun s => (D.t s).n) (fun s i => ((D.t s).r i).n) (fun s i d => tch (((D.t s).r i).e d).plo (((D.t s).r i).e d).phi x = true) s i d

set_option maxHeartbeats 4000000 in
theorem want_flags (A : Adr) (D : Plc) (f t : ByteArray) (w : World) (hP : PlIn w A D) (hS : Small D) :
    Calls Try.prog 9 #[.agg (plC A D), .string f, .string t] w fun e w' => ∃ c n : Bool, e = .returned (.tuple #[.bool c, .bool n]) ∧
      (c = true ↔ eqS f t = false ∧ ∃ i, i < D.sn ∧ tch (D.sl i).lo (D.sl i).hi f = true) ∧
      (n = true ↔ eqS f t = false ∧ NB D f 2 0 0) ∧ Below w.heap.size w w' := by
  have HP := hidm hP
  have hsn := hS.1
  have HSm := hidm hS
  clear hP hS
  have hbox : PlBox (w.alloc (.cells (plC A D) 33)) w.heap.size A D := plBox_of (heap_alloc_new w _)
  have hb0 : Below w.heap.size w (w.alloc (.cells (plC A D) 33)) := (Below.refl _ _).alloc (Nat.le_refl _) _
  have hsz : (w.alloc (.cells (plC A D) 33)).heap.size = w.heap.size + 1 := by simp
  have HBX := hidm hbox
  have HB0 := hidm hb0
  have HSZ := hidm hsz
  clear hbox hb0 hsz
  by_cases hft : (f.toList == t.toList) = true
  · go_enter Try.func9, Try.ntmps9
    go_wp2
    go_ret2
    exact ⟨false, false, rfl, by simp [eqS, hft], by simp [eqS, hft], (Below.refl _ _).alloc (Nat.le_refl _) _⟩
  have hft' : (f.toList == t.toList) = false := by simpa using hft
  have HFT : Hid (eqS f t = false) := hft'
  clear hft
  go_enter Try.func9, Try.ntmps9
  go_wp2
  go_loopw [8, 9] (fun c i wr => ∃ (k : Nat) (cb : Bool), k ≤ D.sn ∧ i = .int .i64 k ∧ c = .bool cb ∧ Hid (cb = true ↔ ∃ j, j < k ∧ tch (D.sl j).lo (D.sl j).hi f = true) ∧ Below (w.heap.size + 1) (w.alloc (.cells (plC A D) 33)) wr) (fun _ i _ => D.sn - (intOf i).toNat)
  case atStart => exact ⟨0, false, Nat.zero_le _, rfl, rfl, (by show _ ↔ _; simp), Below.refl _ _⟩
  case round =>
    obtain ⟨k, cb, hk, rfl, rfl, HC, hbr⟩ := hrel
    have hbw : Below w.heap.size w wr := HB0.out.trans (hbr.mono (by omega))
    obtain ⟨c0, c1, c2, c3, c4, c5, c6, c7, c8, _, c11, _⟩ := HBX.out.below hbr (by omega)
    clear c0 c1 c2 c3 c4 c5 c6 c7 c11
    by_cases hlt : k < D.sn
    · rcases (HP.out.below hbw).2.1 with hz | ⟨b, o, ha, hb, hcell⟩
      · omega
      rw [ha] at c8
      obtain ⟨_, s1, s2, _, _⟩ := hcell k hlt
      clear hcell
      go_wp2_with fail
      refine (touches _ _ _ _).mono ?_
      rintro e w2 ⟨rfl, hb2⟩
      have hbr2 : Below (w.heap.size + 1) (w.alloc (.cells (plC A D) 33)) w2 := hbr.trans (hb2.mono (by have := hbr.size; have := HSZ.out; omega))
      clear hbr hb2 hbw s1 s2 c8
      cases htc : (eqS (D.sl k).lo f || eqS (D.sl k).hi f)
      · have HT : Hid (tch (D.sl k).lo (D.sl k).hi f = false) := htc
        go_wp2
        go_roundw
        case rel => exact ⟨k + 1, cb, by omega, by go_num, rfl, (by show _ ↔ _; rw [ex_succ (p := fun j => tch (D.sl j).lo (D.sl j).hi f = true) k, HT.out, ← HC.out]; simp), hbr2⟩
        case measure => simp [intOf]; omega
      · have HT : Hid (tch (D.sl k).lo (D.sl k).hi f = true) := htc
        go_wp2
        go_roundw
        case rel => exact ⟨k + 1, true, by omega, by go_num, rfl, (by show _ ↔ _; rw [ex_succ (p := fun j => tch (D.sl j).lo (D.sl j).hi f = true) k, HT.out]; simp), hbr2⟩
        case measure => simp [intOf]; omega
    · have hke : k = D.sn := by omega
      subst hke
      clear hbw
      go_wp2
      go_loopw [10, 11] (fun c i wr => ∃ (s : Nat) (nb : Bool), s ≤ 2 ∧ i = .int .i64 s ∧ c = .bool nb ∧ Hid (nb = true ↔ NB D f s 0 0) ∧ Below (w.heap.size + 1) (w.alloc (.cells (plC A D) 33)) wr) (fun _ i _ => 2 - (intOf i).toNat)
      case atStart => exact ⟨0, false, Nat.zero_le _, rfl, rfl, (by show _ ↔ _; simp only [Bool.false_eq_true, false_iff]; exact upto_start), hbr⟩
      case round =>
        obtain ⟨s, nb, hs, rfl, rfl, HN, hbr⟩ := hrel
        by_cases hs2 : s < 2
        · obtain ⟨c0, c1, c2, c3, c4, c5, c6, c7, c8, _, c11, _⟩ := HBX.out.below hbr (by omega)
          have ct := c11 s hs2
          clear c0 c1 c2 c3 c4 c5 c6 c7 c8 c11
          have hTn : (D.t s).n ≤ 1048576 := (HSm.out.2 s hs2).1.1
          have hs2' : (s : Int) < 2 := by omega
          have HT := hidm (HP.out.2.2.1 s hs2)
          generalize A.ta s = ta at ct HT
          go_wp2
          go_loopw [10, 13] (fun c i wr => ∃ (k : Nat) (nb : Bool), k ≤ (D.t s).n ∧ i = .int .i64 k ∧ c = .bool nb ∧ Hid (nb = true ↔ NB D f s k 0) ∧ Below (w.heap.size + 1) (w.alloc (.cells (plC A D) 33)) wr) (fun _ i _ => (D.t s).n - (intOf i).toNat)
          case atStart => exact ⟨0, nb, Nat.zero_le _, rfl, rfl, HN, hbr⟩
          case round =>
            clear ct hbr HN
            obtain ⟨k, nb, hk, rfl, rfl, HN, hbr⟩ := hrel
            by_cases hkn : k < (D.t s).n
            · have hbw : Below w.heap.size w wr := HB0.out.trans (hbr.mono (by omega))
              rcases HT.out.2 with hz | ⟨b, o, rfl, hb, hcell⟩
              · omega
              obtain ⟨ra, rc, hrc0, hRow⟩ := hcell k hkn
              have hrc : wr.cell? ⟨b, o + k, none⟩ = some (.slice ra ((D.t s).r k).n rc) := (hbw.cell (by exact hb)).trans hrc0
              have hRn : ((D.t s).r k).n ≤ 1048576 := ((HSm.out.2 s hs2).1.2 k hkn).1
              have HRow := hidm hRow
              clear hcell hrc0 hRow hbw
              go_wp2
              go_loopw [10, 15] (fun c i wr => ∃ (d : Nat) (nb : Bool), d ≤ ((D.t s).r k).n ∧ i = .int .i64 d ∧ c = .bool nb ∧ Hid (nb = true ↔ NB D f s k d) ∧ Below (w.heap.size + 1) (w.alloc (.cells (plC A D) 33)) wr) (fun _ i _ => ((D.t s).r k).n - (intOf i).toNat)
              case atStart => exact ⟨0, nb, Nat.zero_le _, rfl, rfl, HN, hbr⟩
              case round =>
                clear hrc hbr HN
                obtain ⟨d, nb, hd, rfl, rfl, HN, hbr⟩ := hrel
                by_cases hdn : d < ((D.t s).r k).n
                · have hbw : Below w.heap.size w wr := HB0.out.trans (hbr.mono (by omega))
                  rcases (HRow.out.below hbw).2 with hz | ⟨b', o', rfl, hb', hcell⟩
                  · omega
                  obtain ⟨ca, sa, cc, sc, ⟨_, _, _, e3, e4, _, _⟩, _⟩ := hcell d hdn
                  clear hcell
                  go_wp2_with fail
                  refine (touches _ _ _ _).mono ?_
                  rintro e w2 ⟨rfl, hb2⟩
                  have hbr2 : Below (w.heap.size + 1) (w.alloc (.cells (plC A D) 33)) w2 := hbr.trans (hb2.mono (by have := hbr.size; have := HSZ.out; omega))
                  clear hbr hb2 hbw e3 e4
                  cases htc : (eqS (((D.t s).r k).e d).plo f || eqS (((D.t s).r k).e d).phi f)
                  · have HTT : Hid (tch (((D.t s).r k).e d).plo (((D.t s).r k).e d).phi f = false) := htc
                    go_wp2
                    go_roundw
                    case rel => exact ⟨d + 1, nb, by omega, by go_num, rfl, (by show _ ↔ _; rw [HN.out]; unfold NB; rw [upto_d, HTT.out]; simp), hbr2⟩
                    case measure => simp [intOf]; omega
                  · have HTT : Hid (tch (((D.t s).r k).e d).plo (((D.t s).r k).e d).phi f = true) := htc
                    go_wp2
                    go_roundw
                    case rel => exact ⟨d + 1, true, by omega, by go_num, rfl, (by show _ ↔ _; unfold NB; rw [upto_d, HTT.out]; simp), hbr2⟩
                    case measure => simp [intOf]; omega
                · have hde : d = ((D.t s).r k).n := by omega
                  subst hde
                  go_wp2
                  go_roundw
                  case rel => exact ⟨k + 1, nb, by omega, by go_num, rfl, (by show _ ↔ _; rw [HN.out]; exact upto_row s k), hbr⟩
                  case measure => simp [intOf]; omega
            · have hke : k = (D.t s).n := by omega
              subst hke
              go_wp2
              go_roundw
              case rel => exact ⟨s + 1, nb, by omega, by go_num, rfl, (by show _ ↔ _; rw [HN.out]; exact upto_tab s), hbr⟩
              case measure => simp [intOf]; omega
        · have hse : s = 2 := by omega
          subst hse
          go_wp2
          go_ret2
          exact ⟨cb, nb, rfl, (by rw [HC.out, HFT.out]; simp), (by rw [HN.out, HFT.out]; simp), HB0.out.trans (hbr.mono (by omega))⟩
end Go.Proofs.Qxb6623423a.Seat
