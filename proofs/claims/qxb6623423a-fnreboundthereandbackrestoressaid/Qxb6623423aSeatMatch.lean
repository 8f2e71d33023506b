/- Seat b6623423a: zzMatches at two places of one content. -/
import Derived.Test.Qxb6623423aSeatUncM
namespace Go.Proofs.Qxb6623423a.Seat
open Go.RowKit

theorem eqNil39 (a : Option Addr) (n c : Nat) (w : World) : (binOp .eql 39 (.slice a n c) (.slice none 0 0)).run Try.prog w = .ok (.bool a.isNone) w := Lib.run_eql_slice_nil w 39 _ a n c 0 0 Try.underlying39
theorem eqNil26 (a : Option Addr) (n c : Nat) (w : World) : (binOp .eql 26 (.slice a n c) (.slice none 0 0)).run Try.prog w = .ok (.bool a.isNone) w := Lib.run_eql_slice_nil w 26 _ a n c 0 0 Try.underlying26

/-- The world, forgotten but for a word. -/
theorem q_forget {Q : Exit → Act → World → Prop} {e : Exit} {a : Act} {W : World} (P : World → Prop) (h : P W) (k : ∀ W', P W' → Q e a W') : Q e a W := k W h

/-- Two places in their boxes, and nothing older has turned. -/
def InM (w : World) (A A' : Adr) (D : Plc) (wr : World) : Prop :=
  Below (w.heap.size + 2) ((w.alloc (.cells (plC A D) 46)).alloc (.cells (plC A' D) 33)) wr

section
variable {w : World} {A A' : Adr} {D : Plc} {wr w2 : World}
theorem InM.below (h : InM w A A' D wr) : Below w.heap.size w wr :=
  (((Below.refl _ _).alloc (Nat.le_refl _) _).alloc (by simp) _).trans (Below.mono h (by omega))
theorem InM.size (h : InM w A A' D wr) : w.heap.size + 2 ≤ wr.heap.size := by
  have h1 := Below.size h
  have h2 : ((w.alloc (.cells (plC A D) 46)).alloc (.cells (plC A' D) 33)).heap.size = w.heap.size + 2 := by simp
  omega
theorem InM.next (h : InM w A A' D wr) (hb : Below wr.heap.size wr w2) : InM w A A' D w2 := Below.trans h (hb.mono h.size)
theorem InM.box1 (h : InM w A A' D wr) : PlBox wr w.heap.size A D := by
  refine plBox_of (t := 46) ((Below.block h _ (by omega)).trans ?_)
  rw [Below.heap_alloc _ _ _ (by simp)]
  exact heap_alloc_new w _
theorem InM.box2 (h : InM w A A' D wr) : PlBox wr (w.heap.size + 1) A' D := by
  refine plBox_of (t := 33) ((Below.block h _ (by omega)).trans ?_)
  have := heap_alloc_new (w.alloc (.cells (plC A D) 46)) (.cells (plC A' D) 33)
  simpa using this
theorem InM.start : InM w A A' D ((w.alloc (.cells (plC A D) 46)).alloc (.cells (plC A' D) 33)) := Below.refl _ _
end

set_option maxRecDepth 100000 in
set_option maxHeartbeats 8000000 in
theorem matches_true (A A' : Adr) (D : Plc) (f t : ByteArray) (w : World) (h1 : PlIn w A D) (h2 : PlIn w A' D) (hsn : D.sn ≤ 1048576) (hT : ∀ s, s < 2 → TabOk (D.t s)) (hU : ∀ s, s < 2 → TabUOk (D.u s)) :
    Calls Try.prog 10 #[.agg (plC A D), .agg (plC A' D), .string f, .string t, .bool false] w fun e w' => e = .returned (.bool true) ∧ Below w.heap.size w w' := by
  have n1 := eqNil39
  have n2 := eqNil26
  have H1 := hidm h1
  have H2 := hidm h2
  have HT := hidm hT
  have HU := hidm hU
  have z1 : (A.sa.isNone == A'.sa.isNone) = true := by rw [h1.1, h2.1]; simp
  clear h1 h2 hT hU
  have hb0 : InM w A A' D _ := InM.start
  obtain ⟨c0, c1, c2, c3, c4, c5, _, _, _, c9, _, _⟩ := hb0.box1
  obtain ⟨d0, d1, d2, d3, d4, d5, _, _, _, d9, _, _⟩ := hb0.box2
  have c90 := c9 0 (by omega)
  have c91 := c9 1 (by omega)
  have d90 := d9 0 (by omega)
  have d91 := d9 1 (by omega)
  clear c9 d9
  go_enter Try.func10, Try.ntmps10
  go_wp2_with fail
  refine (same_x _ _ _).mono ?_
  rintro e w2 ⟨rfl, x1, x2, hw2⟩
  have hb1 : InM w A A' D w2 := hb0.next (by rw [hw2]; exact (((Below.refl _ _).alloc (Nat.le_refl _) _).alloc (by simp) _))
  clear hb0 hw2 c0 c1 c2 c3 c4 c5 c90 c91 d0 d1 d2 d3 d4 d5 d90 d91
  obtain ⟨_, _, _, _, _, c5, c6, c7, c8, c9, _, _⟩ := hb1.box1
  obtain ⟨_, _, _, _, _, d5, d6, d7, d8, d9, _, _⟩ := hb1.box2
  have c90 := c9 0 (by omega)
  have c91 := c9 1 (by omega)
  have d90 := d9 0 (by omega)
  have d91 := d9 1 (by omega)
  clear c9 d9
  have hz1 : w.heap.size < w2.heap.size := by have := hb1.size; omega
  have hz2 : w.heap.size + 1 < w2.heap.size := by have := hb1.size; omega
  go_wp2_with fail
  go_region_held3 (fun w' => w'.cell? ⟨w.heap.size, 6, none⟩ = some (.string D.plo) ∧ w'.cell? ⟨w.heap.size, 7, none⟩ = some (.string D.phi) ∧ w'.cell? ⟨w.heap.size + 1, 6, none⟩ = some (.string D.plo) ∧ w'.cell? ⟨w.heap.size + 1, 7, none⟩ = some (.string D.phi))
    ((refine (fun (hb : Below w2.heap.size w2 _) => ⟨(hb.cell (by exact hz1)).trans c6, (hb.cell (by exact hz1)).trans c7, (hb.cell (by exact hz2)).trans d6, (hb.cell (by exact hz2)).trans d7⟩) ?_; repeat (first | exact Below.refl _ _ | apply Below.drew | apply below_drewN | (refine Below.alloc ?_ (by simp; try omega) _))))
    (first | (go_at_call 19; refine (want_x _ _ _ _ _).mono ?_; rintro e w1 ⟨rfl, x1, x2, rfl⟩) | (go_at_call 18; refine (same_x _ _ _).mono ?_; rintro e w2 ⟨rfl, x3, x4, rfl⟩))
  refine q_forget (InM w A A' D) (hb1.next ?_) ?_
  · repeat (first | exact Below.refl _ _ | apply Below.drew | apply below_drewN | (refine Below.alloc ?_ (by simp; try omega) _))
  clear c5 c6 c7 c8 c90 c91 d5 d6 d7 d8 d90 d91 hb1 hz1 hz2
  intro w3 hb3
  obtain ⟨_, _, _, _, _, _, _, _, c8, _, _, _⟩ := hb3.box1
  obtain ⟨_, _, _, _, _, _, _, _, d8, _, _, _⟩ := hb3.box2
  go_wp2
  go_loopw [11] (fun i wr => ∃ k : Nat, k ≤ D.sn ∧ i = .int .i64 k ∧ InM w A A' D wr) (fun i _ => D.sn - (intOf i).toNat)
  case atStart => exact ⟨0, Nat.zero_le _, rfl, hb3⟩
  case round =>
    clear c8 d8 hb3
    obtain ⟨k, hk, rfl, hbr⟩ := hrel
    obtain ⟨_, _, _, _, _, _, _, _, p8, _, _, _⟩ := hbr.box1
    obtain ⟨_, _, _, _, _, _, _, _, q8, _, _, _⟩ := hbr.box2
    by_cases hkn : k < D.sn
    · rcases (H1.out.below hbr.below).2.1 with hz | ⟨b1, o1, ha1, hb1, hc1⟩
      · omega
      rcases (H2.out.below hbr.below).2.1 with hz | ⟨b2, o2, ha2, hb2, hc2⟩
      · omega
      rw [ha1] at p8
      rw [ha2] at q8
      obtain ⟨f0, f1, f2, f3, f4⟩ := hc1 k hkn
      obtain ⟨g0, g1, g2, g3, g4⟩ := hc2 k hkn
      clear hc1 hc2 ha1 ha2
      have hz1 : w.heap.size < wr.heap.size := by have := hbr.size; omega
      have hz2 : w.heap.size + 1 < wr.heap.size := by have := hbr.size; omega
      go_wp2
      go_region_held3 (fun w' => w'.cell? ⟨wr.heap.size, 1, none⟩ = some (.string (D.sl k).lo) ∧ w'.cell? ⟨wr.heap.size, 2, none⟩ = some (.string (D.sl k).hi) ∧ w'.cell? ⟨wr.heap.size + 1, 1, none⟩ = some (.string (D.sl k).lo) ∧ w'.cell? ⟨wr.heap.size + 1, 2, none⟩ = some (.string (D.sl k).hi)) (simp [go_sem, World.cell?_alloc_past])
        (first | (go_at_call 19; refine (want_x _ _ _ _ _).mono ?_; rintro e w1 ⟨rfl, x1, x2, rfl⟩) | (go_at_call 18; refine (same_x _ _ _).mono ?_; rintro e w2 ⟨rfl, x3, x4, rfl⟩))
      go_wp2
      go_roundw
      case rel =>
        refine ⟨k + 1, by omega, by go_num, hbr.next ?_⟩
        repeat (first | exact Below.refl _ _ | apply Below.drew | apply below_drewN | (refine Below.alloc ?_ (by simp; try omega) _))
      case measure => simp [intOf]; omega
    · go_wp2
      go_loopw [14] (fun i wr => ∃ k : Nat, k ≤ 2 ∧ i = .int .i64 k ∧ InM w A A' D wr) (fun i _ => 2 - (intOf i).toNat)
      case atStart => exact ⟨0, Nat.zero_le _, rfl, hbr⟩
      case round =>
        clear p8 q8 hbr
        obtain ⟨s, hs, rfl, hbr⟩ := hrel
        by_cases hs2 : s < 2
        · obtain ⟨_, _, _, _, _, _, _, _, _, _, p11, p13⟩ := hbr.box1
          obtain ⟨_, _, _, _, _, _, _, _, _, _, q11, q13⟩ := hbr.box2
          have t1 := p11 s hs2
          have t2 := q11 s hs2
          have u1 := p13 s hs2
          have u2 := q13 s hs2
          have hs2' : (s : Int) < 2 := by omega
          clear p11 p13 q11 q13
          have hz1 : w.heap.size < wr.heap.size := by have := hbr.size; omega
          have hz2 : w.heap.size + 1 < wr.heap.size := by have := hbr.size; omega
          have hTm := table_matches (D.t s) (A.ta s) (A'.ta s) (A.tc s) (A'.tc s) f t
          have HTm := hidm hTm
          clear hTm
          go_wp2
          go_region_held3 (fun w' => w'.cell? ⟨w.heap.size, 11 + s, none⟩ = some (.slice (A.ta s) (D.t s).n (A.tc s)) ∧ w'.cell? ⟨w.heap.size + 1, 11 + s, none⟩ = some (.slice (A'.ta s) (D.t s).n (A'.tc s)))
            ((refine (fun (hb : Below wr.heap.size wr _) => ⟨(hb.cell (by exact hz1)).trans t1, (hb.cell (by exact hz2)).trans t2⟩) ?_; first | assumption | exact Below.refl _ _ | exact Below.drew (Below.refl _ _)))
            ((go_at_call 20; refine (HTm.out _ (((H1.out.below hbr.below).2.2.1 s hs2).below (Below.drew (Below.refl _ _))) (((H2.out.below hbr.below).2.2.1 s hs2).below (Below.drew (Below.refl _ _))) (HT.out s hs2)).mono ?_; rintro e w2 ⟨rfl, hb2'⟩; have hb3 : Below wr.heap.size wr w2 := (Below.drew (Below.refl _ _)).trans hb2'))
          refine q_forget (InM w A A' D) (hbr.next hb3) ?_
          clear t1 t2 u1 u2 hbr hb2' hb3 hz1 hz2 HTm
          intro w3 hbr
          obtain ⟨_, _, _, _, _, _, _, _, _, _, _, p13⟩ := hbr.box1
          obtain ⟨_, _, _, _, _, _, _, _, _, _, _, q13⟩ := hbr.box2
          have u1 := p13 s hs2
          have u2 := q13 s hs2
          clear p13 q13
          have hz1 : w.heap.size < w3.heap.size := by have := hbr.size; omega
          have hz2 : w.heap.size + 1 < w3.heap.size := by have := hbr.size; omega
          have HUm := hidm (uncles_match (D.u s) (A.ua s) (A'.ua s) (A.uc s) (A'.uc s) f t)
          go_wp2
          go_region_held3 (fun w' => w'.cell? ⟨w.heap.size, 13 + s, none⟩ = some (.slice (A.ua s) (D.u s).n (A.uc s)) ∧ w'.cell? ⟨w.heap.size + 1, 13 + s, none⟩ = some (.slice (A'.ua s) (D.u s).n (A'.uc s)))
            ((refine (fun (hb : Below w3.heap.size w3 _) => ⟨(hb.cell (by exact hz1)).trans u1, (hb.cell (by exact hz2)).trans u2⟩) ?_; first | assumption | exact Below.refl _ _ | exact Below.drew (Below.refl _ _)))
            ((go_at_call 21; refine (HUm.out _ (((H1.out.below hbr.below).2.2.2 s hs2).below (Below.drew (Below.refl _ _))) (((H2.out.below hbr.below).2.2.2 s hs2).below (Below.drew (Below.refl _ _))) (HU.out s hs2)).mono ?_; rintro e w2 ⟨rfl, hb2'⟩; have hb3 : Below w3.heap.size w3 w2 := (Below.drew (Below.refl _ _)).trans hb2'))
          go_wp2
          go_roundw
          case rel => exact ⟨s + 1, by omega, by go_num, hbr.next hb3⟩
          case measure => simp [intOf]; omega
        · go_wp2
          go_ret
          exact ⟨rfl, hbr.below⟩
end Go.Proofs.Qxb6623423a.Seat
