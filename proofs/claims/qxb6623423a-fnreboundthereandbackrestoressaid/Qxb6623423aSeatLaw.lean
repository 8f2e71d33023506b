/- Seat b6623423a: the law. -/
import Derived.Test.Qxb6623423aSeatZZ
import Derived.Test.Qxb6623423aSeatBytes
import Derived.Test.Qxb6623423aSeatToPlc
import Derived.Test.Qxb6623423aSeatHolds
import Derived.Test.Qxb6623423aSeatTooBig
namespace Go.Proofs.Qxb6623423a.Seat
open Go.RowKit

/-- The fifteen cells of a boxed place, one by one. -/
theorem PlBox.cells {w : World} {N : Nat} {A : Adr} {D : Plc} (h : PlBox w N A D) : w.cell? ⟨N, 0, none⟩ = some (.int .i64 D.fan) ∧ w.cell? ⟨N, 1, none⟩ = some (.int .i64 D.lev) ∧ w.cell? ⟨N, 2, none⟩ = some (.int .i64 D.num) ∧ w.cell? ⟨N, 3, none⟩ = some (.string D.lo) ∧ w.cell? ⟨N, 4, none⟩ = some (.string D.hi) ∧ w.cell? ⟨N, 5, none⟩ = some (.string D.par) ∧ w.cell? ⟨N, 6, none⟩ = some (.string D.plo) ∧ w.cell? ⟨N, 7, none⟩ = some (.string D.phi) ∧ w.cell? ⟨N, 8, none⟩ = some (.slice A.sa D.sn A.sc) ∧ w.cell? ⟨N, 9, none⟩ = some (.string (D.ad 0)) ∧ w.cell? ⟨N, 10, none⟩ = some (.string (D.ad 1)) ∧ w.cell? ⟨N, 11, none⟩ = some (.slice (A.ta 0) (D.t 0).n (A.tc 0)) ∧ w.cell? ⟨N, 12, none⟩ = some (.slice (A.ta 1) (D.t 1).n (A.tc 1)) ∧ w.cell? ⟨N, 13, none⟩ = some (.slice (A.ua 0) (D.u 0).n (A.uc 0)) ∧ w.cell? ⟨N, 14, none⟩ = some (.slice (A.ua 1) (D.u 1).n (A.uc 1)) := by
  obtain ⟨c0, c1, c2, c3, c4, c5, c6, c7, c8, c9, c11, c13⟩ := h
  exact ⟨c0, c1, c2, c3, c4, c5, c6, c7, c8, c9 0 (by decide), c9 1 (by decide), c11 0 (by decide), c11 1 (by decide), c13 0 (by decide), c13 1 (by decide)⟩

/-- The copy in its own new block. -/
theorem own_new {K : Nat → Key} {w : World} {A : Adr} {D : Plc} (h : Copy K w A D) (e : TypeId) : Own (upd K w.heap.size .place) (w.alloc (.cells (plC A D) e)) w.heap.size A D := by
  have hb : Below w.heap.size w (w.alloc (.cells (plC A D) e)) := (Below.refl _ _).alloc (Nat.le_refl _) _
  refine ⟨by simp, upd_same _ _ _, unf_of (heap_alloc_new w _), plBox_of (heap_alloc_new w _), ?_⟩
  exact h.go (Kp.of (Q := (· = .place)) hb) (by intro e; cases e) (by intro e; cases e) (by intro e; cases e) (by intro _ _ e; cases e) (by intro _ _ e; cases e) (fun b hb => upd_other _ _ (by omega))

theorem bool_eq {a b : Bool} {p : Prop} (h1 : a = true ↔ p) (h2 : b = true ↔ p) : a = b := Bool.eq_iff_iff.2 (h1.trans h2.symm)

set_option maxRecDepth 100000 in
set_option maxHeartbeats 2000000 in
theorem law (A : Adr) (D : Plc) (f t : ByteArray) (w : World) (hP : PlIn w A D) :
    Calls Try.prog 3 #[.agg (plC A D), .string f, .string t] w fun e w' => e = .returned (.bool true) ∧ Below w.heap.size w w' := by
  have HP := hidm hP
  clear hP
  show Calls Try.prog 3 #[.agg #[.int .i64 D.fan, .int .i64 D.lev, .int .i64 D.num, .string D.lo, .string D.hi, .string D.par, .string D.plo, .string D.phi, .slice A.sa D.sn A.sc,
    .string (D.ad 0), .string (D.ad 1), .slice (A.ta 0) (D.t 0).n (A.tc 0), .slice (A.ta 1) (D.t 1).n (A.tc 1), .slice (A.ua 0) (D.u 0).n (A.uc 0), .slice (A.ua 1) (D.u 1).n (A.uc 1)], .string f, .string t] w _
  go_enter Try.func3, Try.ntmps3
  go_wp2_with fail
  refine (bytes A D f t _ (HP.out.below InB.start.below)).mono ?_
  rintro e w2 ⟨h, hb⟩
  have i2 : InB w A D w2 := InB.start.next hb
  clear hb
  rcases h with rfl | ⟨rfl, hsn, hT, hU⟩
  · have B2 := hidm i2.below
    clear i2
    go_wp2
    go_ret
    exact ⟨rfl, B2.out⟩
  have p2 : PlIn w2 A D := HP.out.below i2.below
  have HS := hidm (And.intro hsn (And.intro hT hU))
  obtain ⟨c0, c1, c2, c3, c4, c5, c6, c7, c8, c9, c10, c11, c12, c13, c14⟩ := i2.box.cells
  have I2 := hidm i2
  have P2 := hidm p2
  clear i2 p2 hsn hT hU
  go_wp2_with fail
  refine (too_big A D f t _ P2.out (small_of HS.out.1 HS.out.2.1 HS.out.2.2)).mono ?_
  rintro e w3 ⟨⟨r, rfl⟩, hb⟩
  have i3 : InB w A D w3 := I2.out.next hb
  clear c0 c1 c2 c3 c4 c5 c6 c7 c8 c9 c10 c11 c12 c13 c14 hb I2 P2
  cases r
  case true =>
    have B3 := hidm i3.below
    clear i3
    go_wp2
    go_ret
    exact ⟨rfl, B3.out⟩
  obtain ⟨c0, c1, c2, c3, c4, c5, c6, c7, c8, c9, c10, c11, c12, c13, c14⟩ := i3.box.cells
  have I3 := hidm i3
  clear i3
  go_wp2_with fail
  refine (holds_bound A D t _ (HP.out.below I3.out.below) (small_of HS.out.1 HS.out.2.1 HS.out.2.2)).mono ?_
  rintro e w4 ⟨h, hb⟩
  have i4 : InB w A D w4 := I3.out.next hb
  clear c0 c1 c2 c3 c4 c5 c6 c7 c8 c9 c10 c11 c12 c13 c14 hb I3
  rcases h with rfl | ⟨rfl, hcl⟩
  · have B4 := hidm i4.below
    clear i4
    go_wp2
    go_ret
    exact ⟨rfl, B4.out⟩
  have HCl := hidm hcl
  obtain ⟨c0, c1, c2, c3, c4, c5, c6, c7, c8, c9, c10, c11, c12, c13, c14⟩ := i4.box.cells
  have I4 := hidm i4
  clear i4 hcl
  go_wp2_with fail
  refine (to_place A D (fun _ => .other) _ (fun _ _ => rfl) (HP.out.below I4.out.below) HS.out.1 HS.out.2.1 HS.out.2.2).mono ?_
  rintro e w5 ⟨A', K', he, hb, hC, hKl, hKn⟩
  have he' : e = .returned (.agg #[.int .i64 D.fan, .int .i64 D.lev, .int .i64 D.num, .string D.lo, .string D.hi, .string D.par, .string D.plo, .string D.phi, .slice A'.sa D.sn A'.sc, .string (D.ad 0), .string (D.ad 1), .slice (A'.ta 0) (D.t 0).n (A'.tc 0), .slice (A'.ta 1) (D.t 1).n (A'.tc 1), .slice (A'.ua 0) (D.u 0).n (A'.uc 0), .slice (A'.ua 1) (D.u 1).n (A'.uc 1)]) := he
  subst he'
  have i5 : InB w A D w5 := I4.out.next hb
  have HX := hidm (And.intro i5 (And.intro hb (And.intro hC (And.intro hKl hKn))))
  clear c0 c1 c2 c3 c4 c5 c6 c7 c8 c9 c10 c11 c12 c13 c14 he hb hC hKl hKn i5
  go_wp2_with fail
  obtain ⟨i5, hb5, hC, hKl, hKn⟩ := HX.out
  have own6 := own_new hC 46
  have hn6 : ∀ b, (w5.alloc (.cells (plC A' D) 46)).heap.size ≤ b → upd K' w5.heap.size .place b = .other := by
    intro b hb
    have hs : (w5.alloc (.cells (plC A' D) 46)).heap.size = w5.heap.size + 1 := by simp
    rw [upd_other _ _ (by omega)]
    exact hKn b (by omega)
  have hlow : ∀ b, b < w.heap.size + 1 → upd K' w5.heap.size .place b = .other := by
    intro b hb
    have h1 := I4.out.size
    have h2 := i5.size
    rw [upd_other _ _ (by omega)]
    exact hKl b (by omega)
  have i6 : InB w A D (w5.alloc (.cells (plC A' D) 46)) := i5.next ((Below.refl _ _).alloc (Nat.le_refl _) _)
  generalize hKK : upd K' w5.heap.size .place = K6 at own6 hn6 hlow
  refine (zz_rebound K6 f t w5.heap.size A' D _ own6 hn6 HS.out.1 HS.out.2.1 HS.out.2.2).mono ?_
  rintro e w7 ⟨b1, n1, rfl, hc1, hm1, own7, kp7⟩
  have i7 : InB w A D w7 := Below.trans i6 (kp7.below i6.size (fun b hb h => h (hlow b hb)))
  have hn7 : ∀ b, w7.heap.size ≤ b → K6 b = .other := fun b hb => hn6 b (Nat.le_trans kp7.size hb)
  have HY := hidm (And.intro i7 (And.intro own7 (And.intro hn7 (And.intro hc1 (And.intro hm1 hlow)))))
  clear HX i5 hb5 hC hKl hKn own6 hn6 i6 own7 kp7 i7 hn7 hc1 hm1 hlow hKK I4
  go_wp2_with fail
  obtain ⟨i7, own7, hn7, hc1, hm1, hlow⟩ := HY.out
  refine (zz_rebound K6 t f w5.heap.size A' (mvP f t D) _ own7 hn7 HS.out.1 HS.out.2.1 HS.out.2.2).mono ?_
  rintro e w8 ⟨b2, n2, rfl, hc2, hm2, own8, kp8⟩
  have i8 : InB w A D w8 := Below.trans i7 (kp8.below i7.size (fun b hb h => h (hlow b hb)))
  have hlt8 := own8.lt
  have e1 : b2 = b1 := bool_eq (hc2.trans (slots_back HCl.out)) hc1
  have e2 : n2 = n1 := bool_eq (hm2.trans (ents_back HCl.out)) hm1
  subst e1
  subst e2
  have box8 := box_back own8.box HCl.out
  have pl8 := pl_back own8.copy.pl HCl.out
  have HZ := hidm (And.intro box8 (And.intro pl8 (And.intro hc1 (And.intro hm1 hlt8))))
  obtain ⟨c0, c1, c2, c3, c4, c5, c6, c7, c8, c9, c10, c11, c12, c13, c14⟩ := i8.box.cells
  have I8 := hidm i8
  clear HY i7 own7 hn7 hc1 hm1 hlow hc2 hm2 own8 kp8 i8 hlt8 box8 pl8
  go_wp2_with fail
  refine (want_flags A D f t _ (HP.out.below I8.out.below) (small_of HS.out.1 HS.out.2.1 HS.out.2.2)).mono ?_
  rintro e w9 ⟨b3, n3, rfl, hc3, hm3, hb⟩
  obtain ⟨box8, pl8, hc1, hm1, hlt8⟩ := HZ.out
  have e1 : b3 = b2 := bool_eq (hc3.trans slots_flag.symm) hc1
  have e2 : n3 = n2 := bool_eq (hm3.trans ents_flag.symm) hm1
  subst e1
  subst e2
  have i9 : InB w A D w9 := I8.out.next hb
  have box9 := box8.below hb hlt8
  have pl9 := pl8.below hb
  clear c0 c1 c2 c3 c4 c5 c6 c7 c8 c9 c10 c11 c12 c13 c14 hc3 hm3 hb box8 pl8 hc1 hm1 hlt8 HZ I8
  obtain ⟨c0, c1, c2, c3, c4, c5, c6, c7, c8, c9, c10, c11, c12, c13, c14⟩ := i9.box.cells
  obtain ⟨d0, d1, d2, d3, d4, d5, d6, d7, d8, d9, d10, d11, d12, d13, d14⟩ := box9.cells
  have HZ := hidm (And.intro i9 pl9)
  clear i9 pl9 box9
  go_wp2_with fail
  refine (matches_true A' A D f t _ HZ.out.2 (HP.out.below HZ.out.1.below) HS.out.1 HS.out.2.1 HS.out.2.2).mono ?_
  rintro e w10 ⟨rfl, hb⟩
  have B10 := hidm (HZ.out.1.next hb).below
  clear c0 c1 c2 c3 c4 c5 c6 c7 c8 c9 c10 c11 c12 c13 c14 d0 d1 d2 d3 d4 d5 d6 d7 d8 d9 d10 d11 d12 d13 d14 hb HZ
  go_wp2
  go_ret
  exact ⟨rfl, B10.out⟩
end Go.Proofs.Qxb6623423a.Seat
