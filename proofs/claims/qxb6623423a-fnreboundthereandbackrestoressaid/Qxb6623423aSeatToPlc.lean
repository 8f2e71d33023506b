/- Seat b6623423a: zzToPlace. -/
import Derived.Test.Qxb6623423aSeatPR
namespace Go.Proofs.Qxb6623423a.Seat
open Go.RowKit

def Pre8 (w : World) (b : Nat) (D : Plc) : Prop :=
  w.cell? ⟨b, 0, none⟩ = some (.int .i64 D.fan) ∧ w.cell? ⟨b, 1, none⟩ = some (.int .i64 D.lev) ∧ w.cell? ⟨b, 2, none⟩ = some (.int .i64 D.num) ∧
  w.cell? ⟨b, 3, none⟩ = some (.string D.lo) ∧ w.cell? ⟨b, 4, none⟩ = some (.string D.hi) ∧ w.cell? ⟨b, 5, none⟩ = some (.string D.par) ∧
  w.cell? ⟨b, 6, none⟩ = some (.string D.plo) ∧ w.cell? ⟨b, 7, none⟩ = some (.string D.phi)

section
variable {w w' : World} {b : Nat} {A : Adr} {D : Plc}
theorem Pre8.of (h : Pre8 w b D) (e : ∀ i, i < 8 → w'.cell? ⟨b, i, none⟩ = w.cell? ⟨b, i, none⟩) : Pre8 w' b D := by
  unfold Pre8 at h ⊢
  rw [e 0 (by omega), e 1 (by omega), e 2 (by omega), e 3 (by omega), e 4 (by omega), e 5 (by omega), e 6 (by omega), e 7 (by omega)]
  exact h
theorem pre8 (q : Room w b 15) (h0 : w.cell? ⟨b, 0, none⟩ = some (.int .i64 D.fan)) (h1 : w.cell? ⟨b, 1, none⟩ = some (.int .i64 D.lev)) (h2 : w.cell? ⟨b, 2, none⟩ = some (.int .i64 D.num))
    (h3 : w.cell? ⟨b, 3, none⟩ = some (.string D.lo)) (h4 : w.cell? ⟨b, 4, none⟩ = some (.string D.hi)) (h5 : w.cell? ⟨b, 5, none⟩ = some (.string D.par)) : Pre8 ((w.setCell ⟨b, 6, none⟩ (.string D.plo)).setCell ⟨b, 7, none⟩ (.string D.phi)) b D :=
  ⟨(set_out (by omega)).trans ((set_out (by omega)).trans h0), (set_out (by omega)).trans ((set_out (by omega)).trans h1), (set_out (by omega)).trans ((set_out (by omega)).trans h2), (set_out (by omega)).trans ((set_out (by omega)).trans h3),
    (set_out (by omega)).trans ((set_out (by omega)).trans h4), (set_out (by omega)).trans ((set_out (by omega)).trans h5), (set_out (by omega)).trans (set_some (q.1 _ (by omega))), set_some ((q.set _ _).1 _ (by omega))⟩
theorem p11 (h : Pre8 w b D) (q : Room w b 15) (h8 : w.cell? ⟨b, 8, none⟩ = some (.slice A.sa D.sn A.sc)) : P11 ((w.setCell ⟨b, 9, none⟩ (.string (D.ad 0))).setCell ⟨b, 10, none⟩ (.string (D.ad 1))) b A D := by
  have h' : Pre8 ((w.setCell ⟨b, 9, none⟩ (.string (D.ad 0))).setCell ⟨b, 10, none⟩ (.string (D.ad 1))) b D := h.of (fun i hi => (set_out (by omega)).trans (set_out (by omega)))
  obtain ⟨c0, c1, c2, c3, c4, c5, c6, c7⟩ := h'
  exact ⟨c0, c1, c2, c3, c4, c5, c6, c7, (set_out (by omega)).trans ((set_out (by omega)).trans h8), (set_out (by omega)).trans (set_some (q.1 _ (by omega))), set_some ((q.set _ _).1 _ (by omega))⟩
end

theorem third_cell (w : World) (o1 o2 : Obj) {x : Array Value} {t : TypeId} (i : Nat) : (((w.alloc o1).alloc o2).alloc (.cells x t)).cell? ⟨w.heap.size + 2, i, none⟩ = x[i]? := by
  have e := heap_alloc_new ((w.alloc o1).alloc o2) (.cells x t)
  simp only [World.size_alloc] at e
  exact cells_box e i

/-- The keys ahead of the copying. -/
def key0 (K : Nat → Key) (N : Nat) : Nat → Key := upd (upd K (N + 1) .place) (N + 2) .place
theorem key0_old {K : Nat → Key} {N b : Nat} (h : b < N) : key0 K N b = K b := (upd_other _ _ (by omega)).trans (upd_other _ _ (by omega))
theorem key0_1 {K : Nat → Key} {N : Nat} : key0 K N (N + 1) = .place := (upd_other _ _ (by omega)).trans (upd_same _ _ _)
theorem key0_2 {K : Nat → Key} {N : Nat} : key0 K N (N + 2) = .place := upd_same _ _ _
theorem key0_new {K : Nat → Key} {N b : Nat} (hK : ∀ b, N ≤ b → K b = .other) (h : N + 3 ≤ b) : key0 K N b = .other := (upd_other _ _ (by omega)).trans ((upd_other _ _ (by omega)).trans (hK b (by omega)))

theorem neNil26 (a : Option Addr) (n c : Nat) (w : World) : (binOp .neq 26 (.slice a n c) (.slice none 0 0)).run Try.prog w = .ok (.bool (!a.isNone)) w := run_neq_slice_nil_any w 26 _ a n c 0 0 Try.underlying26

set_option maxRecDepth 100000 in
set_option maxHeartbeats 4000000 in
theorem to_place (A : Adr) (D : Plc) (K : Nat → Key) (w : World) (hK : ∀ b, w.heap.size ≤ b → K b = .other) (h : PlIn w A D) (hsn : D.sn ≤ 1048576) (hT : ∀ s, s < 2 → TabOk (D.t s)) (hU : ∀ s, s < 2 → TabUOk (D.u s)) :
    Calls Try.prog 7 #[.agg (plC A D)] w fun e w' => ∃ (A' : Adr) (K' : Nat → Key), e = .returned (.agg (plC A' D)) ∧ Below w.heap.size w w' ∧ Copy K' w' A' D ∧ (∀ b, b < w.heap.size → K' b = K b) ∧ (∀ b, w'.heap.size ≤ b → K' b = .other) := by
  have n1 := neNil26
  obtain ⟨z1, m1⟩ := make_any (P := Try.prog) 39 68 5 64 Try.underlying39 info68 D.sn (by omega) (by omega)
  have HK := hidm hK
  have HP := hidm h
  have HT := hidm hT
  have HU := hidm hU
  clear hK h hT hU
  show Calls Try.prog 7 #[.agg #[.int .i64 D.fan, .int .i64 D.lev, .int .i64 D.num, .string D.lo, .string D.hi, .string D.par, .string D.plo, .string D.phi, .slice A.sa D.sn A.sc,
    .string (D.ad 0), .string (D.ad 1), .slice (A.ta 0) (D.t 0).n (A.tc 0), .slice (A.ta 1) (D.t 1).n (A.tc 1), .slice (A.ua 0) (D.u 0).n (A.uc 0), .slice (A.ua 1) (D.u 1).n (A.uc 1)]] w _
  go_enter Try.func7, Try.ntmps7
  go_wp2_with fail
  refine (toSlice _ _ _).mono ?_
  rintro e w2 ⟨rfl, hb2⟩
  have s2 := (PS.start w A D _ _ rfl rfl).next' hb2
  have e0 : w2.cell? ⟨w.heap.size + 2, 0, none⟩ = some (.int .i64 D.fan) := (hb2.cell (by simp)).trans (third_cell _ _ _ 0)
  have e1 : w2.cell? ⟨w.heap.size + 2, 1, none⟩ = some (.int .i64 D.lev) := (hb2.cell (by simp)).trans (third_cell _ _ _ 1)
  have e2 : w2.cell? ⟨w.heap.size + 2, 2, none⟩ = some (.int .i64 D.num) := (hb2.cell (by simp)).trans (third_cell _ _ _ 2)
  have e8 : w2.cell? ⟨w.heap.size + 2, 8, none⟩ = some (.slice none 0 0) := (hb2.cell (by simp)).trans (third_cell _ _ _ 8)
  clear hb2
  obtain ⟨_, _, _, _, _, b5, b6, b7, _, _, _, _⟩ := s2.box
  obtain ⟨v3, q3⟩ := s2.q.get (i := 3) (by omega)
  obtain ⟨v4, q4⟩ := s2.q.get (i := 4) (by omega)
  obtain ⟨v5, q5⟩ := s2.q.get (i := 5) (by omega)
  have fr : ∀ i, w2.frozen? ⟨w.heap.size + 2, i, none⟩ = false := s2.q.2
  go_wp2_with fail
  refine (toSlice _ _ _).mono ?_
  rintro e w4 ⟨rfl, hb4⟩
  have s3 := ((s2.set 3 (.string D.lo)).set 4 (.string D.hi)).set 5 (.string D.par)
  have s4 := s3.next' hb4
  have hz3 := s3.size
  have g0 : w4.cell? ⟨w.heap.size + 2, 0, none⟩ = some (.int .i64 D.fan) := (hb4.cell (by exact hz3)).trans ((set_out (by omega)).trans ((set_out (by omega)).trans ((set_out (by omega)).trans e0)))
  have g1 : w4.cell? ⟨w.heap.size + 2, 1, none⟩ = some (.int .i64 D.lev) := (hb4.cell (by exact hz3)).trans ((set_out (by omega)).trans ((set_out (by omega)).trans ((set_out (by omega)).trans e1)))
  have g2 : w4.cell? ⟨w.heap.size + 2, 2, none⟩ = some (.int .i64 D.num) := (hb4.cell (by exact hz3)).trans ((set_out (by omega)).trans ((set_out (by omega)).trans ((set_out (by omega)).trans e2)))
  have g3 : w4.cell? ⟨w.heap.size + 2, 3, none⟩ = some (.string D.lo) := (hb4.cell (by exact hz3)).trans ((set_out (by omega)).trans ((set_out (by omega)).trans (set_in q3)))
  have g4 : w4.cell? ⟨w.heap.size + 2, 4, none⟩ = some (.string D.hi) := (hb4.cell (by exact hz3)).trans ((set_out (by omega)).trans (set_in ((set_out (by omega)).trans q4)))
  have g5 : w4.cell? ⟨w.heap.size + 2, 5, none⟩ = some (.string D.par) := (hb4.cell (by exact hz3)).trans (set_in ((set_out (by omega)).trans ((set_out (by omega)).trans q5)))
  have g8 : w4.cell? ⟨w.heap.size + 2, 8, none⟩ = some (.slice none 0 0) := (hb4.cell (by exact hz3)).trans ((set_out (by omega)).trans ((set_out (by omega)).trans ((set_out (by omega)).trans e8)))
  have HPre := hidm (pre8 s4.q g0 g1 g2 g3 g4 g5)
  clear g0 g1 g2 g3 g4 g5 hb4 hz3 s3 s2 e0 e1 e2 e8 b5 b6 b7 q3 q4 q5 fr
  obtain ⟨_, _, _, _, _, _, _, _, b8, b9, _, _⟩ := s4.box
  have b90 := b9 0 (by omega)
  have b91 := b9 1 (by omega)
  clear b9
  obtain ⟨v6, q6⟩ := s4.q.get (i := 6) (by omega)
  obtain ⟨v7, q7⟩ := s4.q.get (i := 7) (by omega)
  obtain ⟨v9, q9⟩ := s4.q.get (i := 9) (by omega)
  obtain ⟨v10, q10⟩ := s4.q.get (i := 10) (by omega)
  have fr : ∀ i, w4.frozen? ⟨w.heap.size + 2, i, none⟩ = false := s4.q.2
  by_cases hnil : A.sa.isNone = true
  · have hs0 : D.sn = 0 := by
      rcases HP.out.2.1 with h | ⟨_, _, h, _⟩
      · exact h
      · rw [h] at hnil; cases hnil
    have HS0 := hidm hs0
    clear hs0
    go_wp2_with fail
    go_loopw [7] (fun i wr => ∃ (s : Nat) (A' : Adr) (K' : Nat → Key), s ≤ 2 ∧ i = .int .i64 s ∧ PR w K A D A' s s K' wr) (fun i _ => 2 - (intOf i).toNat)
    case atStart =>
      refine ⟨0, ⟨none, 0, fun _ => none, fun _ => 0, fun _ => none, fun _ => 0⟩, key0 K w.heap.size, Nat.zero_le _, rfl, ?_⟩
      refine ⟨(((s4.set 6 _).set 7 _).set 9 _).set 10 _, p11 HPre.out ((s4.q.set _ _).set _ _) ((set_out (by omega)).trans ((set_out (by omega)).trans (g8.trans (by rw [HS0.out])))), all_zero, all_zero, fun b hb => key0_old hb, key0_1, key0_2, fun b hb => ?_, hnil.symm.trans HP.out.1, Or.inl HS0.out, all_zero, all_zero⟩
      have := s4.size
      simp at hb
      exact key0_new HK.out (by omega)
    case round =>
      clear b8 b90 b91 q6 q7 q9 q10 fr g8 HPre s4
      obtain ⟨s, A', K', hs, rfl, pr⟩ := hrel
      by_cases hs2 : s < 2
      · have hs2' : (s : Int) < 2 := by omega
        obtain ⟨_, _, _, _, _, _, _, _, _, _, bt, _⟩ := pr.ps.box
        have t1 := bt s hs2
        clear bt
        have HTT := hidm (to_table s (D.t s) (A.ta s) (A.tc s) K' wr pr.new ((HP.out.below pr.ps.bel).2.2.1 s hs2) (HT.out s hs2))
        go_wp2_with fail
        refine HTT.out.mono ?_
        rintro e w3 ⟨a3, c3, K3, rfl, hb3, hT3, hK3, hn3⟩
        have pr3 := pr.keep hb3 hK3 hn3
        have pr4 := pr3.tabs hs2 (c := c3) hT3
        obtain ⟨_, _, _, _, _, _, _, _, _, _, _, bu⟩ := pr3.ps.box
        have t3 := bu s hs2
        obtain ⟨vt, q11⟩ := pr3.ps.q.get (i := 11 + s) (by omega)
        have fr : ∀ i, w3.frozen? ⟨w.heap.size + 2, i, none⟩ = false := pr3.ps.q.2
        have HUU := hidm (to_uncles s (D.u s) (A.ua s) (A.uc s) K3 _ pr4.new ((HP.out.below pr4.ps.bel).2.2.2 s hs2) (HU.out s hs2))
        clear bu t1 HTT pr hb3 hT3 hK3 hn3 pr3
        go_wp2_with fail
        refine HUU.out.mono ?_
        rintro e w5 ⟨a5, c5, K5, rfl, hb5, hT5, hK5, hn5⟩
        have pr5 := pr4.keep hb5 hK5 hn5
        obtain ⟨vu, q13⟩ := pr5.ps.q.get (i := 13 + s) (by omega)
        have fr' : ∀ i, w5.frozen? ⟨w.heap.size + 2, i, none⟩ = false := pr5.ps.q.2
        have HT5 := hidm hT5
        clear t3 q11 fr HUU hb5 hK5 hn5 hT5 pr4
        go_wp2
        go_roundw
        case rel => exact ⟨s + 1, _, K5, by omega, by go_num, pr5.uncs hs2 (by omega) HT5.out⟩
        case measure => simp [intOf]; omega
      · have hse : s = 2 := by omega
        subst hse
        obtain ⟨c0, c1, c2, c3, c4, c5, c6, c7, c8, c9, c10⟩ := pr.fix
        have c11 := pr.t 0 (by omega)
        have c12 := pr.t 1 (by omega)
        have c13 := pr.u 0 (by omega)
        have c14 := pr.u 1 (by omega)
        simp only [Nat.add_zero, Nat.reduceAdd] at c11 c12 c13 c14
        have fr : ∀ i, wr.frozen? ⟨w.heap.size + 1, i, none⟩ = false := pr.ps.r.2
        obtain ⟨y0, r0⟩ := pr.ps.r.get (i := 0) (by omega)
        obtain ⟨y1, r1⟩ := pr.ps.r.get (i := 1) (by omega)
        obtain ⟨y2, r2⟩ := pr.ps.r.get (i := 2) (by omega)
        obtain ⟨y3, r3⟩ := pr.ps.r.get (i := 3) (by omega)
        obtain ⟨y4, r4⟩ := pr.ps.r.get (i := 4) (by omega)
        obtain ⟨y5, r5⟩ := pr.ps.r.get (i := 5) (by omega)
        obtain ⟨y6, r6⟩ := pr.ps.r.get (i := 6) (by omega)
        obtain ⟨y7, r7⟩ := pr.ps.r.get (i := 7) (by omega)
        obtain ⟨y8, r8⟩ := pr.ps.r.get (i := 8) (by omega)
        obtain ⟨y9, r9⟩ := pr.ps.r.get (i := 9) (by omega)
        obtain ⟨y10, r10⟩ := pr.ps.r.get (i := 10) (by omega)
        obtain ⟨y11, r11⟩ := pr.ps.r.get (i := 11) (by omega)
        obtain ⟨y12, r12⟩ := pr.ps.r.get (i := 12) (by omega)
        obtain ⟨y13, r13⟩ := pr.ps.r.get (i := 13) (by omega)
        obtain ⟨y14, r14⟩ := pr.ps.r.get (i := 14) (by omega)
        go_wp2
        refine bodyPost_ret (v := .agg #[.int .i64 D.fan, .int .i64 D.lev, .int .i64 D.num, .string D.lo, .string D.hi, .string D.par, .string D.plo, .string D.phi, .slice A'.sa D.sn A'.sc,
          .string (D.ad 0), .string (D.ad 1), .slice (A'.ta 0) (D.t 0).n (A'.tc 0), .slice (A'.ta 1) (D.t 1).n (A'.tc 1), .slice (A'.ua 0) (D.u 0).n (A'.uc 0), .slice (A'.ua 1) (D.u 1).n (A'.uc 1)]) ?_ rfl ?_
        · simp [results, Try.results7, go_sem, r0, r1, r2, r3, r4, r5, r6, r7, r8, r9, r10, r11, r12, r13, r14]
        · have hcp : Copy K' wr A' D := ⟨pr.snil, pr.slt, pr.tab, pr.unc⟩
          refine ⟨A', K', rfl, ?_, hcp.go (Q := (· = .place)) ?_ (by intro e; cases e) (by intro e; cases e) (by intro e; cases e) (by intro s i e; cases e) (by intro s i e; cases e) (fun _ _ => rfl), pr.old, ?_⟩
          · repeat (first | refine Below.setCell ?_ (by dsimp only; omega) _ | exact pr.ps.bel)
          · repeat (first | refine Kp.set ?_ (by exact pr.k1) _ | exact Kp.refl)
          · intro b hb
            exact pr.new b (by simpa using hb)
  · have hnil' : A.sa.isNone = false := (Bool.not_eq_true _).mp hnil
    clear hnil
    have hs4 := s4.size
    go_wp2_with fail
    go_loopw [5] (fun i wr => ∃ k : Nat, k ≤ D.sn ∧ i = .int .i64 k ∧ PS w A D wr ∧ Hid (Pre8 wr (w.heap.size + 2) D) ∧ SP w4.heap.size D.sn D.sl k wr) (fun i _ => D.sn - (intOf i).toNat)
    case atStart =>
      have hr := Room.made ((w4.setCell ⟨w.heap.size + 2, 6, none⟩ (.string D.plo)).setCell ⟨w.heap.size + 2, 7, none⟩ (.string D.phi)) z1 (D.sn * 5) 68
      have hbl : Below (w.heap.size + 3) ((w4.setCell ⟨w.heap.size + 2, 6, none⟩ (.string D.plo)).setCell ⟨w.heap.size + 2, 7, none⟩ (.string D.phi)) (((w4.setCell ⟨w.heap.size + 2, 6, none⟩ (.string D.plo)).setCell ⟨w.heap.size + 2, 7, none⟩ (.string D.phi)).alloc (.cells (madeCells z1 (D.sn * 5)) 68)) := (Below.refl _ _).alloc (by simpa using hs4) _
      refine ⟨0, Nat.zero_le _, rfl, ((s4.set 6 _).set 7 _).next hbl, HPre.out.of (fun i _ => hbl.cell (by show w.heap.size + 2 < _; omega)), ⟨by simp, ?_, all_zero⟩⟩
      simpa using hr
    case round =>
      clear b8 b90 b91 q6 q7 q9 q10 fr g8 HPre s4 m1
      obtain ⟨k, hk, rfl, s5, HPre, sp⟩ := hrel
      obtain ⟨_, _, _, _, _, _, _, _, b8, b9, _, _⟩ := s5.box
      by_cases hkn : k < D.sn
      · rcases (HP.out.below s5.bel).2.1 with hz | ⟨b, o, ha, hb, hc⟩
        · omega
        rw [ha] at b8
        clear b9 ha
        obtain ⟨f0, f1, f2, f3, f4⟩ := hc k hkn
        clear hc
        have hz0 : w.heap.size < wr.heap.size := by have := s5.size; omega
        go_wp2_with fail
        refine (toSlice _ _ _).mono ?_
        rintro e w6 ⟨rfl, hb6⟩
        have hwr : wr.heap.size < w6.heap.size := Nat.lt_of_lt_of_le (by simp) hb6.size
        have e0 := hb6.cell (p := ⟨wr.heap.size, 0, none⟩) (by show wr.heap.size < _; simp)
        have e1 := hb6.cell (p := ⟨wr.heap.size, 1, none⟩) (by show wr.heap.size < _; simp)
        have e2 := hb6.cell (p := ⟨wr.heap.size, 2, none⟩) (by show wr.heap.size < _; simp)
        have e3 := hb6.cell (p := ⟨wr.heap.size, 3, none⟩) (by show wr.heap.size < _; simp)
        have e4 := hb6.cell (p := ⟨wr.heap.size, 4, none⟩) (by show wr.heap.size < _; simp)
        rw [cells_box (heap_alloc_new _ _)] at e0 e1 e2 e3 e4
        have hfs : ∀ i, w6.frozen? ⟨wr.heap.size, i, none⟩ = false := fun i => (hb6.frozen (by show wr.heap.size < _; simp)).trans (unf_of (heap_alloc_new _ _) i)
        have hb7 : Below wr.heap.size wr w6 := ((Below.refl _ _).alloc (Nat.le_refl _) _).trans (hb6.mono (by simp))
        have b8' := (hb7.cell (by exact hz0)).trans b8
        have f3' := (hb7.cell (by exact hb)).trans f3
        have f4' := (hb7.cell (by exact hb)).trans f4
        have HB7 := hidm hb7
        clear f0 f1 f2 f3 f4 b8 hb6
        have hroom := sp.room.below hb7 sp.lt
        clear hb7
        obtain ⟨v0, r0⟩ := hroom.get (i := k * 5) (by omega)
        obtain ⟨v1, r1⟩ := hroom.get (i := k * 5 + 1) (by omega)
        obtain ⟨v2, r2⟩ := hroom.get (i := k * 5 + 2) (by omega)
        obtain ⟨v3, r3⟩ := hroom.get (i := k * 5 + 3) (by omega)
        obtain ⟨v4, r4⟩ := hroom.get (i := k * 5 + 4) (by omega)
        have hfr : ∀ i, w6.frozen? ⟨w4.heap.size, i, none⟩ = false := hroom.2
        have hq : w4.heap.size < wr.heap.size := sp.lt
        clear hroom
        simp at e0 e1 e2 e3 e4
        go_wp2
        go_roundw
        case rel =>
          have hb8 := (((HB7.out.setCell (p := ⟨wr.heap.size, 1, none⟩) (Nat.le_refl _) (.string (D.sl k).lo)).setCell (p := ⟨wr.heap.size, 2, none⟩) (Nat.le_refl _) (.string (D.sl k).hi)).setCell (p := ⟨wr.heap.size, 3, none⟩) (Nat.le_refl _) (.int .i64 (D.sl k).vac)).setCell (p := ⟨wr.heap.size, 4, none⟩) (Nat.le_refl _) (.int .i64 (D.sl k).hgt)
          have hb9 := put5_below (q := w4.heap.size) (o := k * 5) (x0 := .string (D.sl k).child) (x1 := .string (D.sl k).lo) (x2 := .string (D.sl k).hi) (x3 := .int .i64 (D.sl k).vac) (x4 := .int .i64 (D.sl k).hgt) hs4 (hb8.mono s5.size)
          exact ⟨k + 1, by omega, by go_num, s5.next hb9, HPre.out.of (fun i _ => hb9.cell (by show w.heap.size + 2 < _; omega)), sp.step hkn hb8⟩
        case measure => simp [intOf]; omega
      · have hke : k = D.sn := by omega
        subst hke
        have b90 := b9 0 (by omega)
        have b91 := b9 1 (by omega)
        clear b9
        obtain ⟨v8, q8⟩ := s5.q.get (i := 8) (by omega)
        obtain ⟨v9, q9⟩ := s5.q.get (i := 9) (by omega)
        obtain ⟨v10, q10⟩ := s5.q.get (i := 10) (by omega)
        have fr : ∀ i, wr.frozen? ⟨w.heap.size + 2, i, none⟩ = false := s5.q.2
        go_wp2_with fail
        rename World => wr5
        go_loopw [7] (fun i wr => ∃ (s : Nat) (A' : Adr) (K' : Nat → Key), s ≤ 2 ∧ i = .int .i64 s ∧ PR w K A D A' s s K' wr) (fun i _ => 2 - (intOf i).toNat)
        case atStart =>
          have hk2 : upd (key0 K w.heap.size) w4.heap.size .slots (w.heap.size + 2) = .place := (upd_other _ _ (by omega)).trans key0_2
          have hs5 : SltOwn (upd (key0 K w.heap.size) w4.heap.size .slots) wr5 (some ⟨w4.heap.size, 0, none⟩) D.sn D.sl := Or.inr ⟨_, rfl, sp.lt, upd_same _ _ _, sp.room.2, sp.slts⟩
          refine ⟨0, ⟨some ⟨w4.heap.size, 0, none⟩, D.sn, fun _ => none, fun _ => 0, fun _ => none, fun _ => 0⟩, upd (key0 K w.heap.size) w4.heap.size .slots, Nat.zero_le _, rfl, ?_⟩
          refine ⟨((s5.set 8 _).set 9 _).set 10 _, p11 (HPre.out.of (fun i hi => set_out (by omega))) (s5.q.set _ _) (set_in q8), all_zero, all_zero, fun b hb => (upd_other _ _ (by omega)).trans (key0_old hb), (upd_other _ _ (by omega)).trans key0_1, hk2, fun b hb => ?_, hnil'.symm.trans HP.out.1, hs5.go (Q := (· = .place)) (((Kp.refl.set (by exact hk2) _).set (by exact hk2) _).set (by exact hk2) _) (by intro e; cases e) (fun _ _ => rfl), all_zero, all_zero⟩
          have := sp.lt
          simp at hb
          exact (upd_other _ _ (by omega)).trans (key0_new HK.out (by omega))
        case round =>
          clear b8 b90 b91 q8 q9 q10 fr HPre s5 sp
          obtain ⟨s, A', K', hs, rfl, pr⟩ := hrel
          by_cases hs2 : s < 2
          · have hs2' : (s : Int) < 2 := by omega
            obtain ⟨_, _, _, _, _, _, _, _, _, _, bt, _⟩ := pr.ps.box
            have t1 := bt s hs2
            clear bt
            have HTT := hidm (to_table s (D.t s) (A.ta s) (A.tc s) K' wr pr.new ((HP.out.below pr.ps.bel).2.2.1 s hs2) (HT.out s hs2))
            go_wp2_with fail
            refine HTT.out.mono ?_
            rintro e w3 ⟨a3, c3, K3, rfl, hb3, hT3, hK3, hn3⟩
            have pr3 := pr.keep hb3 hK3 hn3
            have pr4 := pr3.tabs hs2 (c := c3) hT3
            obtain ⟨_, _, _, _, _, _, _, _, _, _, _, bu⟩ := pr3.ps.box
            have t3 := bu s hs2
            obtain ⟨vt, q11⟩ := pr3.ps.q.get (i := 11 + s) (by omega)
            have fr : ∀ i, w3.frozen? ⟨w.heap.size + 2, i, none⟩ = false := pr3.ps.q.2
            have HUU := hidm (to_uncles s (D.u s) (A.ua s) (A.uc s) K3 _ pr4.new ((HP.out.below pr4.ps.bel).2.2.2 s hs2) (HU.out s hs2))
            clear bu t1 HTT pr hb3 hT3 hK3 hn3 pr3
            go_wp2_with fail
            refine HUU.out.mono ?_
            rintro e w5 ⟨a5, c5, K5, rfl, hb5, hT5, hK5, hn5⟩
            have pr5 := pr4.keep hb5 hK5 hn5
            obtain ⟨vu, q13⟩ := pr5.ps.q.get (i := 13 + s) (by omega)
            have fr' : ∀ i, w5.frozen? ⟨w.heap.size + 2, i, none⟩ = false := pr5.ps.q.2
            have HT5 := hidm hT5
            clear t3 q11 fr HUU hb5 hK5 hn5 hT5 pr4
            go_wp2
            go_roundw
            case rel => exact ⟨s + 1, _, K5, by omega, by go_num, pr5.uncs hs2 (by omega) HT5.out⟩
            case measure => simp [intOf]; omega
          · have hse : s = 2 := by omega
            subst hse
            obtain ⟨c0, c1, c2, c3, c4, c5, c6, c7, c8, c9, c10⟩ := pr.fix
            have c11 := pr.t 0 (by omega)
            have c12 := pr.t 1 (by omega)
            have c13 := pr.u 0 (by omega)
            have c14 := pr.u 1 (by omega)
            simp only [Nat.add_zero, Nat.reduceAdd] at c11 c12 c13 c14
            have fr : ∀ i, wr.frozen? ⟨w.heap.size + 1, i, none⟩ = false := pr.ps.r.2
            obtain ⟨y0, r0⟩ := pr.ps.r.get (i := 0) (by omega)
            obtain ⟨y1, r1⟩ := pr.ps.r.get (i := 1) (by omega)
            obtain ⟨y2, r2⟩ := pr.ps.r.get (i := 2) (by omega)
            obtain ⟨y3, r3⟩ := pr.ps.r.get (i := 3) (by omega)
            obtain ⟨y4, r4⟩ := pr.ps.r.get (i := 4) (by omega)
            obtain ⟨y5, r5⟩ := pr.ps.r.get (i := 5) (by omega)
            obtain ⟨y6, r6⟩ := pr.ps.r.get (i := 6) (by omega)
            obtain ⟨y7, r7⟩ := pr.ps.r.get (i := 7) (by omega)
            obtain ⟨y8, r8⟩ := pr.ps.r.get (i := 8) (by omega)
            obtain ⟨y9, r9⟩ := pr.ps.r.get (i := 9) (by omega)
            obtain ⟨y10, r10⟩ := pr.ps.r.get (i := 10) (by omega)
            obtain ⟨y11, r11⟩ := pr.ps.r.get (i := 11) (by omega)
            obtain ⟨y12, r12⟩ := pr.ps.r.get (i := 12) (by omega)
            obtain ⟨y13, r13⟩ := pr.ps.r.get (i := 13) (by omega)
            obtain ⟨y14, r14⟩ := pr.ps.r.get (i := 14) (by omega)
            go_wp2
            refine bodyPost_ret (v := .agg #[.int .i64 D.fan, .int .i64 D.lev, .int .i64 D.num, .string D.lo, .string D.hi, .string D.par, .string D.plo, .string D.phi, .slice A'.sa D.sn A'.sc,
              .string (D.ad 0), .string (D.ad 1), .slice (A'.ta 0) (D.t 0).n (A'.tc 0), .slice (A'.ta 1) (D.t 1).n (A'.tc 1), .slice (A'.ua 0) (D.u 0).n (A'.uc 0), .slice (A'.ua 1) (D.u 1).n (A'.uc 1)]) ?_ rfl ?_
            · simp [results, Try.results7, go_sem, r0, r1, r2, r3, r4, r5, r6, r7, r8, r9, r10, r11, r12, r13, r14]
            · have hcp : Copy K' wr A' D := ⟨pr.snil, pr.slt, pr.tab, pr.unc⟩
              refine ⟨A', K', rfl, ?_, hcp.go (Q := (· = .place)) ?_ (by intro e; cases e) (by intro e; cases e) (by intro e; cases e) (by intro s i e; cases e) (by intro s i e; cases e) (fun _ _ => rfl), pr.old, ?_⟩
              · repeat (first | refine Below.setCell ?_ (by dsimp only; omega) _ | exact pr.ps.bel)
              · repeat (first | refine Kp.set ?_ (by exact pr.k1) _ | exact Kp.refl)
              · intro b hb
                exact pr.new b (by simpa using hb)
end Go.Proofs.Qxb6623423a.Seat
