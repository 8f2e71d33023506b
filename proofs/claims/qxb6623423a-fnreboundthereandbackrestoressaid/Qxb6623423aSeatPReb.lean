/- Seat b6623423a: (*Place).rebound. -/
import Derived.Test.Qxb6623423aSeatMv
import Derived.Deep.RegionWith
namespace Go.Proofs.Qxb6623423a.Seat
open Go.RowKit

/-- Somewhere up to (s, i, d) an entry's span moves. -/
def MB (D : Plc) (f t : ByteArray) (s i d : Nat) : Prop := Upto (fun s => (D.t s).n) (fun s i => ((D.t s).r i).n) (fun s i d => chg f t (((D.t s).r i).e d).plo (((D.t s).r i).e d).phi = true) s i d

/-- A place and all that it leads to, of the call's own. -/
structure Own (K : Nat → Key) (w : World) (N : Nat) (A : Adr) (D : Plc) : Prop where
  lt : N < w.heap.size
  key : K N = .place
  unf : Unf w N
  box : PlBox w N A D
  copy : Copy K w A D

theorem idx42 (ta : Nat → Option Addr) (n c : Nat → Nat) (s : Nat) (hs : s < 2) (w : World) : (Instr.index 42 (.agg #[.slice (ta 0) (n 0) (c 0), .slice (ta 1) (n 1) (c 1)]) (.int .i64 s)).run Try.prog w = .ok (.slice (ta s) (n s) (c s)) w := by
  have : s = 0 ∨ s = 1 := by omega
  rcases this with rfl | rfl
  · simp [go_sem, Instr.index]
  · simp [go_sem, Instr.index]
theorem idx44 (ta : Nat → Option Addr) (n c : Nat → Nat) (s : Nat) (hs : s < 2) (w : World) : (Instr.index 44 (.agg #[.slice (ta 0) (n 0) (c 0), .slice (ta 1) (n 1) (c 1)]) (.int .i64 s)).run Try.prog w = .ok (.slice (ta s) (n s) (c s)) w := by
  have : s = 0 ∨ s = 1 := by omega
  rcases this with rfl | rfl
  · simp [go_sem, Instr.index]
  · simp [go_sem, Instr.index]

theorem Only.kp' {K : Nat → Key} {g o n : Nat} {q : Key} {w w' : World} (h : Only g o n w w') (hk : K g = q) : Kp K (· = q) w w' := hk ▸ h.kp

/-- The parent's span moved. -/
def mvH (f t : ByteArray) (D : Plc) : Plc := { D with plo := mv f t D.plo, phi := mv f t D.phi }

theorem Own.head {K : Nat → Key} {f t : ByteArray} {w w2 : World} {N : Nat} {A : Adr} {D : Plc} (h : Own K w N A D) (hb : Below w.heap.size w w2) :
    Own K ((w2.setCell ⟨N, 6, none⟩ (.string (mv f t D.plo))).setCell ⟨N, 7, none⟩ (.string (mv f t D.phi))) N A (mvH f t D) ∧
    Kp K (· = .place) w ((w2.setCell ⟨N, 6, none⟩ (.string (mv f t D.plo))).setCell ⟨N, 7, none⟩ (.string (mv f t D.phi))) := by
  have hk : Kp K (· = .place) w ((w2.setCell ⟨N, 6, none⟩ (.string (mv f t D.plo))).setCell ⟨N, 7, none⟩ (.string (mv f t D.phi))) := ((Kp.of hb).set (by exact h.key) _).set (by exact h.key) _
  obtain ⟨c0, c1, c2, c3, c4, c5, c6, c7, c8, c9, c11, c13⟩ := h.box.below hb h.lt
  refine ⟨⟨Nat.lt_of_lt_of_le h.lt hk.size, h.key, fun i => ((World.frozen?_setCell _ _ _ _).trans (World.frozen?_setCell _ _ _ _)).trans ((hb.frozen (by exact h.lt)).trans (h.unf i)), ?_, ?_⟩, hk⟩
  · exact ⟨(set_out (by omega)).trans ((set_out (by omega)).trans c0), (set_out (by omega)).trans ((set_out (by omega)).trans c1), (set_out (by omega)).trans ((set_out (by omega)).trans c2), (set_out (by omega)).trans ((set_out (by omega)).trans c3), (set_out (by omega)).trans ((set_out (by omega)).trans c4), (set_out (by omega)).trans ((set_out (by omega)).trans c5),
      (set_out (by omega)).trans (set_in c6), set_in ((set_out (by omega)).trans c7), (set_out (by omega)).trans ((set_out (by omega)).trans c8), fun s hs => (set_out (by omega)).trans ((set_out (by omega)).trans (c9 s hs)), fun s hs => (set_out (by omega)).trans ((set_out (by omega)).trans (c11 s hs)), fun s hs => (set_out (by omega)).trans ((set_out (by omega)).trans (c13 s hs))⟩
  · have := h.copy.go (K' := K) hk (by intro e; cases e) (by intro e; cases e) (by intro e; cases e) (by intro s i e; cases e) (by intro s i e; cases e) (fun _ _ => rfl)
    exact this

theorem moved_x (lo hi f t : ByteArray) (w : World) :
    Calls Try.prog 23 #[.agg #[.string lo, .string hi], .string f, .string t] w fun e w' => e = .returned (.tuple #[.agg #[.string (mv f t lo), .string (mv f t hi)], .bool (chg f t lo hi)]) ∧ Hid (Below w.heap.size w w') := moved lo hi f t w

/-- The slots moved too. -/
def mvL (f t : ByteArray) (D : Plc) : Plc := { mvH f t D with sl := fun i => mvS f t (D.sl i) }

theorem Own.slots {K : Nat → Key} {f t : ByteArray} {w w2 : World} {N : Nat} {A : Adr} {D : Plc} (h : Own K w N A (mvH f t D)) (hk : Kp K (· = .slots) w w2) (hs : SltOwn K w2 A.sa D.sn (fun i => mvS f t (D.sl i))) : Own K w2 N A (mvL f t D) := by
  have hq : ¬ (K N = .slots) := by rw [h.key]; intro e; cases e
  refine ⟨Nat.lt_of_lt_of_le h.lt hk.size, h.key, h.unf.kp hk h.lt hq, h.box.of (hk.block N h.lt hq), h.copy.1, hs, fun s hs => ?_, fun s hs => ?_⟩
  · exact (h.copy.2.2.1 s hs).go hk (by intro e; cases e) (by intro e; cases e) (by intro i e; cases e) (fun _ _ => rfl)
  · exact (h.copy.2.2.2 s hs).go hk (by intro e; cases e) (by intro i e; cases e) (fun _ _ => rfl)

/-- The tables moved too. -/
def mvG (f t : ByteArray) (D : Plc) : Plc := { mvL f t D with t := fun s => mvT f t (D.t s) }

theorem Own.tabs {K : Nat → Key} {f t : ByteArray} {w w2 : World} {N : Nat} {A : Adr} {D : Plc} (h : Own K w N A (mvL f t D)) (hk : Kp K (fun q => ∃ s i, q = .row s i) w w2) (hs : ∀ s, s < 2 → TabOwn K s w2 (A.ta s) (mvT f t (D.t s))) : Own K w2 N A (mvG f t D) := by
  have hq : ¬ (∃ s i, K N = .row s i) := by rw [h.key]; rintro ⟨s, i, e⟩; cases e
  refine ⟨Nat.lt_of_lt_of_le h.lt hk.size, h.key, h.unf.kp hk h.lt hq, h.box.of (hk.block N h.lt hq), h.copy.1, ?_, hs, fun s hs => ?_⟩
  · exact h.copy.2.1.go hk (by rintro ⟨s, i, e⟩; cases e) (fun _ _ => rfl)
  · exact (h.copy.2.2.2 s hs).go hk (by rintro ⟨s, i, e⟩; cases e) (by rintro j ⟨s, i, e⟩; cases e) (fun _ _ => rfl)

theorem Own.uncs {K : Nat → Key} {f t : ByteArray} {w w2 : World} {N : Nat} {A : Adr} {D : Plc} (h : Own K w N A (mvG f t D)) (hk : Kp K (fun q => ∃ s i, q = .urow s i) w w2) (hs : ∀ s, s < 2 → TabUOwn K s w2 (A.ua s) (mvTU f t (D.u s))) : Own K w2 N A (mvP f t D) := by
  have hq : ¬ (∃ s i, K N = .urow s i) := by rw [h.key]; rintro ⟨s, i, e⟩; cases e
  refine ⟨Nat.lt_of_lt_of_le h.lt hk.size, h.key, h.unf.kp hk h.lt hq, h.box.of (hk.block N h.lt hq), h.copy.1, ?_, fun s hs => ?_, hs⟩
  · exact h.copy.2.1.go hk (by rintro ⟨s, i, e⟩; cases e) (fun _ _ => rfl)
  · exact (h.copy.2.2.1 s hs).go hk (by rintro ⟨s, i, e⟩; cases e) (by rintro ⟨s, i, e⟩; cases e) (by rintro j ⟨s, i, e⟩; cases e) (fun _ _ => rfl)

theorem Kp.trans' {K : Nat → Key} {w w2 w3 : World} (h : Kp K (· = .place) w w2) (k : Kp K (· = .slots) w2 w3) : Kp K (· ≠ .other) w w3 :=
  (h.mono (fun q e => by rw [e]; intro x; cases x)).trans (k.mono (fun q e => by rw [e]; intro x; cases x))

theorem slot_step {K : Nat → Key} {f t : ByteArray} {W1 wr w3 : World} {b k n : Nat} {x : Nat → Slt} (kp : Kp K (· = .slots) W1 wr) (hb3 : Below wr.heap.size wr w3) (hl : SltOwn K wr (some ⟨b, 0, none⟩) n (upto (mvS f t) k x)) (hk : k < n) :
    Kp K (· = .slots) W1 ((w3.setCell ⟨b, k * 5 + 1, none⟩ (.string (mv f t (x k).lo))).setCell ⟨b, k * 5 + 1 + 1, none⟩ (.string (mv f t (x k).hi))) ∧
    SltOwn K ((w3.setCell ⟨b, k * 5 + 1, none⟩ (.string (mv f t (x k).lo))).setCell ⟨b, k * 5 + 1 + 1, none⟩ (.string (mv f t (x k).hi))) (some ⟨b, 0, none⟩) n (upto (mvS f t) (k + 1) x) := by
  rcases hl with hz | ⟨b', hb', hlt, hkb, hu, he⟩
  · omega
  injection hb' with hb'
  injection hb' with hb'
  subst hb'
  have ho : Only b (k * 5) 5 wr ((w3.setCell ⟨b, k * 5 + 1, none⟩ (.string (mv f t (x k).lo))).setCell ⟨b, k * 5 + 1 + 1, none⟩ (.string (mv f t (x k).hi))) := ((Only.of hb3 hlt).set (by omega) (by omega) _).set (by omega) (by omega) _
  have hslt := he k hk
  rw [upto_ge (by omega)] at hslt
  obtain ⟨f0, f1, f2, f3, f4⟩ := hslt
  have e : ∀ i, w3.cell? ⟨b, i, none⟩ = wr.cell? ⟨b, i, none⟩ := fun i => hb3.cell (by exact hlt)
  refine ⟨kp.trans (hkb ▸ ho.kp), SltOwn.step (Or.inr ⟨b, rfl, hlt, hkb, hu, he⟩) hk ho ⟨?_, ?_, ?_, ?_, ?_⟩⟩
  · exact (set_out (by omega)).trans ((set_out (by omega)).trans ((e _).trans f0))
  · exact (set_out (by omega)).trans (set_in ((e _).trans f1))
  · exact set_in ((set_out (by omega)).trans ((e _).trans f2))
  · exact (set_out (by omega)).trans ((set_out (by omega)).trans ((e _).trans f3))
  · exact (set_out (by omega)).trans ((set_out (by omega)).trans ((e _).trans f4))

set_option maxRecDepth 100000 in
set_option maxHeartbeats 2000000 in
theorem place_rebound (K : Nat → Key) (f t : ByteArray) (N : Nat) (A : Adr) (D : Plc) (w : World) (h : Own K w N A D) (hn : ∀ b, w.heap.size ≤ b → K b = .other) (hsn : D.sn ≤ 1048576) (hT : ∀ s, s < 2 → TabOk (D.t s)) (hU : ∀ s, s < 2 → TabUOk (D.u s)) :
    Calls Try.prog 17 #[.pointer (some ⟨N, 0, none⟩), .string f, .string t] w fun e w' => ∃ c n : Bool, e = .returned (.tuple #[.bool c, .bool n]) ∧
      (c = true ↔ ∃ i, i < D.sn ∧ chg f t (D.sl i).lo (D.sl i).hi = true) ∧ (n = true ↔ MB D f t 2 0 0) ∧ Own K w' N A (mvP f t D) ∧ Kp K (· ≠ .other) w w' := by
  have HT := hidm hT
  have HU := hidm hU
  have HN := hidm hn
  have HO := hidm h
  clear hT hU hn
  obtain ⟨_, _, _, _, _, _, c6, c7, _, _, _, _⟩ := h.box
  have hlt := h.lt
  clear h
  go_enter Try.func17, Try.ntmps17
  go_wp2_with fail
  refine (moved _ _ _ _ _).mono ?_
  rintro e w2 ⟨rfl, hb2⟩
  have hfr : ∀ i, w2.frozen? ⟨N, i, none⟩ = false := fun i => (hb2.frozen (by exact hlt)).trans (HO.out.unf i)
  have e6 := (hb2.cell (by exact hlt)).trans c6
  have e7 := (hb2.cell (by exact hlt)).trans c7
  have e8 : w2.cell? ⟨N, 8, none⟩ = some (.slice A.sa D.sn A.sc) := (hb2.cell (by exact hlt)).trans HO.out.box.2.2.2.2.2.2.2.2.1
  have HB2 := hidm hb2
  clear hb2 c6 c7
  go_wp2_with fail
  obtain ⟨o1, k1⟩ := HO.out.head (f := f) (t := t) HB2.out
  have HK1 := hidm k1
  clear k1 e6 e7 e8 hfr HB2
  generalize (w2.setCell ⟨N, 6, none⟩ (.string (mv f t D.plo))).setCell ⟨N, 7, none⟩ (.string (mv f t D.phi)) = W1 at o1 HK1 ⊢
  go_loopw [6, 38] (fun c i wr => ∃ (k : Nat) (cb : Bool), k ≤ D.sn ∧ i = .int .i64 k ∧ c = .bool cb ∧ Hid (cb = true ↔ ∃ j, j < k ∧ chg f t (D.sl j).lo (D.sl j).hi = true) ∧ Kp K (· = .slots) W1 wr ∧ Hid (SltOwn K wr A.sa D.sn (upto (mvS f t) k D.sl))) (fun _ i _ => D.sn - (intOf i).toNat)
  case atStart =>
    refine ⟨0, false, Nat.zero_le _, rfl, rfl, (by show _ ↔ _; simp), Kp.refl, ?_⟩
    rw [upto_zero]
    exact o1.copy.2.1
  case round =>
    obtain ⟨k, cb, hk, rfl, rfl, HC, kp, HL⟩ := hrel
    have hltr : N < wr.heap.size := Nat.lt_of_lt_of_le o1.lt kp.size
    have e8 : wr.cell? ⟨N, 8, none⟩ = some (.slice A.sa D.sn A.sc) := (kp.cell (by exact o1.lt) (by show ¬ (K N = _); rw [o1.key]; intro e; cases e)).trans o1.box.2.2.2.2.2.2.2.2.1
    by_cases hkn : k < D.sn
    · rcases HL.out with hz | ⟨b, ha, hb, hkb, hu, he⟩
      · omega
      rw [ha] at e8
      have hslt := he k hkn
      rw [upto_ge (by omega)] at hslt
      obtain ⟨f0, f1, f2, f3, f4⟩ := hslt
      have HA := hidm ha
      have HKB := hidm hkb
      have HF := hidm (And.intro f0 (And.intro f3 f4))
      clear he ha hkb f0 f3 f4
      go_wp2_with fail
      have hbN : b ≠ N := by
        intro e
        rw [e, o1.key] at HKB
        cases HKB.out
      go_region_with ((go_at_call 23; refine (moved _ _ _ _ _).mono ?_; rintro e w3 ⟨rfl, hb3'⟩; have hb3 : Below wr.heap.size wr w3 := (Below.drew (Below.refl _ _)).trans hb3'; have g1 := (hb3.cell (by exact hb)).trans f1; have g2 := (hb3.cell (by exact hb)).trans f2; have g3 : ∀ i, w3.frozen? ⟨b, i, none⟩ = false := fun i => (hb3.frozen (by exact hb)).trans (hu i); have g8 := (hb3.cell (by exact hltr)).trans e8))
      all_goals (
        have st := slot_step kp hb3 (HA.out ▸ HL.out) hkn
        have HST := hidm st
        clear st g1 g2 g3 g8 hb3 hb3' f1 f2 e8
        cases hch : chg f t (D.sl k).lo (D.sl k).hi
        · go_wp2
          go_roundw
          case rel => exact ⟨k + 1, cb, by omega, by go_num, rfl, (by show _ ↔ _; rw [ex_succ (p := fun j => chg f t (D.sl j).lo (D.sl j).hi = true) k, hch, ← HC.out]; simp), HST.out.1, HA.out ▸ HST.out.2⟩
          case measure => simp [intOf]; omega
        · go_wp2
          go_roundw
          case rel => exact ⟨k + 1, true, by omega, by go_num, rfl, (by show _ ↔ _; rw [ex_succ (p := fun j => chg f t (D.sl j).lo (D.sl j).hi = true) k, hch]; simp), HST.out.1, HA.out ▸ HST.out.2⟩
          case measure => simp [intOf]; omega)
    · have hke : k = D.sn := by omega
      subst hke
      have o2 := o1.slots kp HL.out.full
      have HK2 := hidm (HK1.out.trans' kp)
      clear HK1 HL kp e8 hltr o1
      obtain ⟨_, _, _, _, _, _, _, _, _, _, t0, _⟩ := o2.box
      have t00 : wr.cell? ⟨N, 11, none⟩ = some (.slice (A.ta 0) (D.t 0).n (A.tc 0)) := t0 0 (by omega)
      have t01 : wr.cell? ⟨N, 12, none⟩ = some (.slice (A.ta 1) (D.t 1).n (A.tc 1)) := t0 1 (by omega)
      clear t0
      go_wp2_with fail
      rename World => W2
      clear t00 t01
      go_loopw [7, 68] (fun nb i wr => ∃ (s : Nat) (n : Bool), s ≤ 2 ∧ i = .int .i64 s ∧ nb = .bool n ∧ Hid (n = true ↔ MB D f t s 0 0) ∧ Kp K (fun q => ∃ s i, q = .row s i) W2 wr ∧ Hid (∀ s', s' < 2 → TabOwn K s' wr (A.ta s') (upto (mvT f t) s D.t s'))) (fun _ i _ => 2 - (intOf i).toNat)
      case atStart =>
        refine ⟨0, false, Nat.zero_le _, rfl, rfl, (by show _ ↔ _; simp only [Bool.false_eq_true, false_iff]; exact upto_start), Kp.refl, ?_⟩
        rw [upto_zero]
        exact o2.copy.2.2.1
      case round =>
        obtain ⟨s, nb, hs, rfl, rfl, HNB, kp2, HTab⟩ := hrel
        by_cases hs2 : s < 2
        · have hs2' : (s : Int) < 2 := by omega
          have hidx : ∀ w : World, (Instr.index 42 (.agg #[.slice (A.ta 0) (D.t 0).n (A.tc 0), .slice (A.ta 1) (D.t 1).n (A.tc 1)]) (.int .i64 s)).run Try.prog w = .ok (.slice (A.ta s) (D.t s).n (A.tc s)) w := fun w => idx42 A.ta (fun s => (D.t s).n) A.tc s hs2 w
          have hTn : (D.t s).n ≤ 1048576 := (HT.out s hs2).1
          have ht0 := HTab.out s hs2
          rw [upto_ge (by omega)] at ht0
          have HT0 := hidm ht0
          clear ht0
          generalize hta : A.ta s = ta at HT0 hidx
          have HTA := hidm hta
          clear hta
          go_wp2_with fail
          rename World => wr2
          go_loopw [7, 73] (fun nb i wr => ∃ (k : Nat) (n : Bool), k ≤ (D.t s).n ∧ i = .int .i64 k ∧ nb = .bool n ∧ Hid (n = true ↔ MB D f t s k 0) ∧ Kp K (fun q => ∃ i, q = .row s i) wr2 wr ∧ Hid (TabOwn K s wr ta (ptT f t k (D.t s)))) (fun _ i _ => (D.t s).n - (intOf i).toNat)
          case atStart => exact ⟨0, nb, Nat.zero_le _, rfl, rfl, HNB, Kp.refl, ptT_zero ▸ HT0.out⟩
          case round =>
            clear HNB HT0
            obtain ⟨k, nb, hk, rfl, rfl, HNB, kp3, HT3⟩ := hrel
            by_cases hkn : k < (D.t s).n
            · rcases HT3.out.2 with hz | ⟨b, rfl, hb, hkb, he⟩
              · exact absurd hz (show ¬ (D.t s).n = 0 by omega)
              have hek := he k hkn
              rw [show (ptT f t k (D.t s)).r k = (D.t s).r k from upto_ge (by omega)] at hek
              obtain ⟨ra, rc, hr, hrow⟩ := hek
              have hRn : ((D.t s).r k).n ≤ 1048576 := ((HT.out s hs2).2 k hkn).1
              have HRow := hidm hrow
              have HR := hidm hr
              clear he hrow hkb
              go_wp2_with fail
              rename World => wr3
              clear hr
              go_loopw [7, 79] (fun nb i wr => ∃ (d : Nat) (n : Bool), d ≤ ((D.t s).r k).n ∧ i = .int .i64 d ∧ nb = .bool n ∧ Hid (n = true ↔ MB D f t s k d) ∧ Kp K (· = .row s k) wr3 wr ∧ Hid (RowOwn K s k wr ra (ptR f t d ((D.t s).r k)))) (fun _ i _ => ((D.t s).r k).n - (intOf i).toNat)
              case atStart => exact ⟨0, nb, Nat.zero_le _, rfl, rfl, HNB, Kp.refl, ptR_zero ▸ HRow.out⟩
              case round =>
                clear HNB HRow
                obtain ⟨d, nb, hd, rfl, rfl, HNB, kp4, HR4⟩ := hrel
                by_cases hdn : d < ((D.t s).r k).n
                · rcases HR4.out.2 with hz | ⟨q, rfl, hq, hkq, hu, he⟩
                  · exact absurd hz (show ¬ ((D.t s).r k).n = 0 by omega)
                  have hed := he d hdn
                  rw [show (ptR f t d ((D.t s).r k)).e d = ((D.t s).r k).e d from upto_ge (by omega)] at hed
                  obtain ⟨ca, sa, cc, sc, hcells, h1, h2, h3, h4⟩ := hed
                  have hsz : w.heap.size ≤ wr.heap.size := Nat.le_trans HK2.out.size (Nat.le_trans kp2.size (Nat.le_trans kp3.size kp4.size))
                  have HCall := hidm (ent_rebound K f t q (d * 7) (((D.t s).r k).e d) ca sa cc sc wr hq (by rw [hkq]; intro e; cases e) (fun b hb => HN.out b (by omega)) hu hcells h4 (((HT.out s hs2).2 k hkn).2 d hdn).2)
                  have HH := hidm (And.intro hkq (And.intro h1 (And.intro h2 h3)))
                  clear he hkq hcells h1 h2 h3 h4
                  go_wp2_with fail
                  refine HCall.out.mono ?_
                  rintro e w5 ⟨rfl, ho, sa', sc', hc', hsa', hl'⟩
                  have HST := hidm (HR4.out.step hdn ho hc' HH.out.2.1 (hsa'.trans HH.out.2.2.1) HH.out.2.2.2 hl')
                  have HKP := hidm (kp4.trans (ho.kp' HH.out.1))
                  clear hc' hsa' hl' ho HCall
                  cases hch : chg f t (((D.t s).r k).e d).plo (((D.t s).r k).e d).phi
                  · go_wp2
                    go_roundw
                    case rel => exact ⟨d + 1, nb, by omega, by go_num, rfl, (by show _ ↔ _; rw [HNB.out]; unfold MB; rw [upto_d, hch]; simp), HKP.out, HST.out⟩
                    case measure => simp [intOf]; omega
                  · go_wp2
                    go_roundw
                    case rel => exact ⟨d + 1, true, by omega, by go_num, rfl, (by show _ ↔ _; unfold MB; rw [upto_d, hch]; simp), HKP.out, HST.out⟩
                    case measure => simp [intOf]; omega
                · have hde : d = ((D.t s).r k).n := by omega
                  subst hde
                  go_wp2
                  go_roundw
                  case rel => exact ⟨k + 1, nb, by omega, by go_num, rfl, (by show _ ↔ _; rw [HNB.out]; exact upto_row s k), kp3.trans (kp4.mono (fun q e => ⟨k, e⟩)), HT3.out.step hkn kp4 HR.out HR4.out.full⟩
                  case measure => simp [intOf]; omega
            · have hke : k = (D.t s).n := by omega
              subst hke
              go_wp2
              go_roundw
              case rel =>
                refine ⟨s + 1, nb, by omega, by go_num, rfl, (by show _ ↔ _; rw [HNB.out]; exact upto_tab s), kp2.trans (kp3.mono (fun q ⟨i, e⟩ => ⟨s, i, e⟩)), fun s' hs' => ?_⟩
                by_cases e : s' = s
                · subst e
                  rw [upto_lt (by omega), HTA.out]
                  exact HT3.out.full
                · rw [upto_ne e]
                  exact (HTab.out s' hs').go kp3 (by rintro ⟨i, e⟩; cases e) (by rintro ⟨i, e⟩; cases e) (by rintro j ⟨i, e'⟩; injection e' with e'; exact e e') (fun _ _ => rfl)
              case measure => simp [intOf]; omega
        · have hse : s = 2 := by omega
          subst hse
          have o3 := o2.tabs kp2 (fun s hs => by have := HTab.out s hs; rwa [upto_lt hs] at this)
          have HK3 := hidm (HK2.out.trans (kp2.mono (fun q ⟨s, i, e⟩ => by rw [e]; intro x; cases x)))
          clear HK2 HTab kp2 o2
          obtain ⟨_, _, _, _, _, _, _, _, _, _, _, u0⟩ := o3.box
          have u00 : wr.cell? ⟨N, 13, none⟩ = some (.slice (A.ua 0) (D.u 0).n (A.uc 0)) := u0 0 (by omega)
          have u01 : wr.cell? ⟨N, 14, none⟩ = some (.slice (A.ua 1) (D.u 1).n (A.uc 1)) := u0 1 (by omega)
          clear u0
          go_wp2_with fail
          rename World => W3
          clear u00 u01
          go_loopw [95] (fun i wr => ∃ (s : Nat), s ≤ 2 ∧ i = .int .i64 s ∧ Kp K (fun q => ∃ s i, q = .urow s i) W3 wr ∧ Hid (∀ s', s' < 2 → TabUOwn K s' wr (A.ua s') (upto (mvTU f t) s D.u s'))) (fun i _ => 2 - (intOf i).toNat)
          case atStart =>
            refine ⟨0, Nat.zero_le _, rfl, Kp.refl, ?_⟩
            rw [upto_zero]
            exact o3.copy.2.2.2
          case round =>
            obtain ⟨s, hs, rfl, kp2, HTab⟩ := hrel
            by_cases hs2 : s < 2
            · have hs2' : (s : Int) < 2 := by omega
              have hidx : ∀ w : World, (Instr.index 44 (.agg #[.slice (A.ua 0) (D.u 0).n (A.uc 0), .slice (A.ua 1) (D.u 1).n (A.uc 1)]) (.int .i64 s)).run Try.prog w = .ok (.slice (A.ua s) (D.u s).n (A.uc s)) w := fun w => idx44 A.ua (fun s => (D.u s).n) A.uc s hs2 w
              have hTn : (D.u s).n ≤ 1048576 := (HU.out s hs2).1
              have ht0 := HTab.out s hs2
              rw [upto_ge (by omega)] at ht0
              have HT0 := hidm ht0
              clear ht0
              generalize hta : A.ua s = ta at HT0 hidx
              have HTA := hidm hta
              clear hta
              go_wp2_with fail
              rename World => wr2
              go_loopw [100] (fun i wr => ∃ (k : Nat), k ≤ (D.u s).n ∧ i = .int .i64 k ∧ Kp K (fun q => ∃ i, q = .urow s i) wr2 wr ∧ Hid (TabUOwn K s wr ta (ptTU f t k (D.u s)))) (fun i _ => (D.u s).n - (intOf i).toNat)
              case atStart => exact ⟨0, Nat.zero_le _, rfl, Kp.refl, ptTU_zero ▸ HT0.out⟩
              case round =>
                clear HT0
                obtain ⟨k, hk, rfl, kp3, HT3⟩ := hrel
                by_cases hkn : k < (D.u s).n
                · rcases HT3.out.2 with hz | ⟨b, rfl, hb, hkb, he⟩
                  · exact absurd hz (show ¬ (D.u s).n = 0 by omega)
                  have hek := he k hkn
                  rw [show (ptTU f t k (D.u s)).r k = (D.u s).r k from upto_ge (by omega)] at hek
                  obtain ⟨ra, rc, hr, hrow⟩ := hek
                  have hRn : ((D.u s).r k).n ≤ 1048576 := (HU.out s hs2).2 k hkn
                  have HRow := hidm hrow
                  have HR := hidm hr
                  clear he hrow hkb
                  go_wp2_with fail
                  rename World => wr3
                  clear hr
                  go_loopw [106] (fun i wr => ∃ (d : Nat), d ≤ ((D.u s).r k).n ∧ i = .int .i64 d ∧ Kp K (· = .urow s k) wr3 wr ∧ Hid (RowUOwn K s k wr ra (ptRU f t d ((D.u s).r k)))) (fun i _ => ((D.u s).r k).n - (intOf i).toNat)
                  case atStart => exact ⟨0, Nat.zero_le _, rfl, Kp.refl, ptRU_zero ▸ HRow.out⟩
                  case round =>
                    clear HRow
                    obtain ⟨d, hd, rfl, kp4, HR4⟩ := hrel
                    by_cases hdn : d < ((D.u s).r k).n
                    · rcases HR4.out.2 with hz | ⟨q, rfl, hq, hkq, hu, he⟩
                      · exact absurd hz (show ¬ ((D.u s).r k).n = 0 by omega)
                      have hed := he d hdn
                      rw [show (ptRU f t d ((D.u s).r k)).u d = ((D.u s).r k).u d from upto_ge (by omega)] at hed
                      obtain ⟨f0, f1, f2⟩ := hed
                      have HKQ := hidm hkq
                      clear he hkq
                      go_wp2_with fail
                      refine (moved _ _ _ _ _).mono ?_
                      rintro e w5 ⟨rfl, hb5⟩
                      have g0 := (hb5.cell (by exact hq)).trans f0
                      have g1 := (hb5.cell (by exact hq)).trans f1
                      have g2 := (hb5.cell (by exact hq)).trans f2
                      have hfr : ∀ i, w5.frozen? ⟨q, i, none⟩ = false := fun i => (hb5.frozen (by exact hq)).trans (hu i)
                      have HB5 := hidm hb5
                      clear hb5 f0 f1 f2
                      go_wp2
                      go_roundw
                      case rel =>
                        have ho : Only q (d * 3) 3 wr ((w5.setCell ⟨q, d * 3 + 1, none⟩ (.string (mv f t (((D.u s).r k).u d).lo))).setCell ⟨q, d * 3 + 1 + 1, none⟩ (.string (mv f t (((D.u s).r k).u d).hi))) := ((Only.of HB5.out hq).set (by omega) (by omega) _).set (by omega) (by omega) _
                        (repeat apply Exists.intro)
                        exact ⟨⟨d + 1, by omega, by go_num, kp4.trans (ho.kp' HKQ.out), HR4.out.step hdn ho ⟨(set_out (by omega)).trans ((set_out (by omega)).trans g0), (set_out (by omega)).trans (set_in g1), set_in ((set_out (by omega)).trans g2)⟩⟩, rfl⟩
                      case measure => simp [intOf]; omega
                    · have hde : d = ((D.u s).r k).n := by omega
                      subst hde
                      go_wp2
                      go_roundw
                      case rel => exact ⟨k + 1, by omega, by go_num, kp3.trans (kp4.mono (fun q e => ⟨k, e⟩)), HT3.out.step hkn kp4 HR.out HR4.out.full⟩
                      case measure => simp [intOf]; omega
                · have hke : k = (D.u s).n := by omega
                  subst hke
                  go_wp2
                  go_roundw
                  case rel =>
                    refine ⟨s + 1, by omega, by go_num, kp2.trans (kp3.mono (fun q ⟨i, e⟩ => ⟨s, i, e⟩)), fun s' hs' => ?_⟩
                    by_cases e : s' = s
                    · subst e
                      rw [upto_lt (by omega), HTA.out]
                      exact HT3.out.full
                    · rw [upto_ne e]
                      exact (HTab.out s' hs').go kp3 (by rintro ⟨i, e⟩; cases e) (by rintro j ⟨i, e'⟩; injection e' with e'; exact e e') (fun _ _ => rfl)
                  case measure => simp [intOf]; omega
            · have hse : s = 2 := by omega
              subst hse
              have o4 := o3.uncs kp2 (fun s hs => by have := HTab.out s hs; rwa [upto_lt hs] at this)
              have HK4 := hidm (HK3.out.trans (kp2.mono (fun q ⟨s, i, e⟩ => by rw [e]; intro x; cases x)))
              go_wp2
              go_ret2
              exact ⟨cb, nb, rfl, HC.out, HNB.out, o4, HK4.out⟩
end Go.Proofs.Qxb6623423a.Seat
