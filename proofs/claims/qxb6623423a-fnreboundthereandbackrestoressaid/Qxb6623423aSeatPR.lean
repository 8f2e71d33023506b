/- Seat b6623423a: a place in the making. -/
import Derived.Test.Qxb6623423aSeatToUnc
namespace Go.Proofs.Qxb6623423a.Seat
open Go.RowKit

/-- A place's first eleven cells. -/
def P11 (w : World) (b : Nat) (A : Adr) (D : Plc) : Prop :=
  w.cell? ⟨b, 0, none⟩ = some (.int .i64 D.fan) ∧ w.cell? ⟨b, 1, none⟩ = some (.int .i64 D.lev) ∧ w.cell? ⟨b, 2, none⟩ = some (.int .i64 D.num) ∧
  w.cell? ⟨b, 3, none⟩ = some (.string D.lo) ∧ w.cell? ⟨b, 4, none⟩ = some (.string D.hi) ∧ w.cell? ⟨b, 5, none⟩ = some (.string D.par) ∧
  w.cell? ⟨b, 6, none⟩ = some (.string D.plo) ∧ w.cell? ⟨b, 7, none⟩ = some (.string D.phi) ∧ w.cell? ⟨b, 8, none⟩ = some (.slice A.sa D.sn A.sc) ∧
  w.cell? ⟨b, 9, none⟩ = some (.string (D.ad 0)) ∧ w.cell? ⟨b, 10, none⟩ = some (.string (D.ad 1))

theorem P11.of {w w' : World} {b : Nat} {A A2 : Adr} {D : Plc} (h : P11 w b A D) (e : ∀ i, i < 11 → w'.cell? ⟨b, i, none⟩ = w.cell? ⟨b, i, none⟩) (h1 : A2.sa = A.sa) (h2 : A2.sc = A.sc) : P11 w' b A2 D := by
  unfold P11 at h ⊢
  rw [h1, h2, e 0 (by omega), e 1 (by omega), e 2 (by omega), e 3 (by omega), e 4 (by omega), e 5 (by omega), e 6 (by omega), e 7 (by omega), e 8 (by omega), e 9 (by omega), e 10 (by omega)]
  exact h

theorem PlBox.of {w w' : World} {b : Nat} {A : Adr} {D : Plc} (h : PlBox w b A D) (e : w'.heap[b]? = w.heap[b]?) : PlBox w' b A D := by
  have e' : ∀ i, w'.cell? ⟨b, i, none⟩ = w.cell? ⟨b, i, none⟩ := fun i => World.cell?_of_block (by exact e)
  unfold PlBox at h ⊢
  simp only [e']
  exact h

/-- The argument in its box, the result's block, the local place's block. -/
structure PS (w : World) (A : Adr) (D : Plc) (wr : World) : Prop where
  bel : Below w.heap.size w wr
  size : w.heap.size + 3 ≤ wr.heap.size
  box : PlBox wr w.heap.size A D
  r : Room wr (w.heap.size + 1) 15
  q : Room wr (w.heap.size + 2) 15

section
variable {w : World} {A : Adr} {D : Plc} {wr w2 : World}
theorem PS.next (h : PS w A D wr) (hb : Below (w.heap.size + 3) wr w2) : PS w A D w2 :=
  ⟨h.bel.trans (hb.mono (by omega)), Nat.le_trans h.size hb.size, h.box.of (hb.block _ (by omega)), h.r.below hb (by omega), h.q.below hb (by omega)⟩
theorem PS.next' (h : PS w A D wr) (hb : Below wr.heap.size wr w2) : PS w A D w2 := h.next (hb.mono h.size)
theorem PS.set (h : PS w A D wr) (i : Nat) (v : Value) : PS w A D (wr.setCell ⟨w.heap.size + 2, i, none⟩ v) :=
  ⟨h.bel.setCell (by show _ ≤ w.heap.size + 2; omega) _, by simpa using h.size, h.box.of (Below.heap_setCell _ _ _ _ (by show _ ≠ w.heap.size + 2; omega)), h.r.set _ _, h.q.set _ _⟩
theorem PS.start (w : World) (A : Adr) (D : Plc) (y x : Array Value) (hy : y.size = 15) (hx : x.size = 15) :
    PS w A D (((w.alloc (.cells (plC A D) 33)).alloc (.cells y 46)).alloc (.cells x 46)) := by
  refine ⟨(((Below.refl _ _).alloc (Nat.le_refl _) _).alloc (by simp) _).alloc (by simp; omega) _, by simp, plBox_of (t := 33) ?_, ?_, ?_⟩
  · rw [Below.heap_alloc _ _ _ (by simp; omega), Below.heap_alloc _ _ _ (by simp)]
    exact heap_alloc_new w _
  · have := Room.cells (w.alloc (.cells (plC A D) 33)) y 46
    simp only [World.size_alloc, hy] at this
    exact this.block (Below.heap_alloc _ _ _ (by simp))
  · have := Room.cells ((w.alloc (.cells (plC A D) 33)).alloc (.cells y 46)) x 46
    simp only [World.size_alloc, hx] at this
    exact this
end

/-- st tables and su tables of uncles are laid. -/
structure PR (w : World) (K : Nat → Key) (A : Adr) (D : Plc) (A' : Adr) (st su : Nat) (K' : Nat → Key) (wr : World) : Prop where
  ps : PS w A D wr
  fix : P11 wr (w.heap.size + 2) A' D
  t : ∀ j, j < st → wr.cell? ⟨w.heap.size + 2, 11 + j, none⟩ = some (.slice (A'.ta j) (D.t j).n (A'.tc j))
  u : ∀ j, j < su → wr.cell? ⟨w.heap.size + 2, 13 + j, none⟩ = some (.slice (A'.ua j) (D.u j).n (A'.uc j))
  old : ∀ b, b < w.heap.size → K' b = K b
  k1 : K' (w.heap.size + 1) = .place
  k2 : K' (w.heap.size + 2) = .place
  new : ∀ b, wr.heap.size ≤ b → K' b = .other
  snil : A'.sa.isNone = D.snil
  slt : SltOwn K' wr A'.sa D.sn D.sl
  tab : ∀ j, j < st → TabOwn K' j wr (A'.ta j) (D.t j)
  unc : ∀ j, j < su → TabUOwn K' j wr (A'.ua j) (D.u j)

section
variable {w : World} {K : Nat → Key} {A : Adr} {D : Plc} {A' : Adr} {st su : Nat} {K' K3 : Nat → Key} {wr w3 : World}

theorem PR.keep (h : PR w K A D A' st su K' wr) (hb : Below wr.heap.size wr w3) (hK : ∀ b, b < wr.heap.size → K3 b = K' b) (hn : ∀ b, w3.heap.size ≤ b → K3 b = .other) : PR w K A D A' st su K3 w3 := by
  have hs := h.ps.size
  have e : ∀ i, w3.cell? ⟨w.heap.size + 2, i, none⟩ = wr.cell? ⟨w.heap.size + 2, i, none⟩ := fun i => hb.cell (by show w.heap.size + 2 < _; omega)
  exact ⟨h.ps.next' hb, h.fix.of (fun i _ => e i) rfl rfl, fun j hj => (e _).trans (h.t j hj), fun j hj => (e _).trans (h.u j hj), fun b hb' => (hK b (by omega)).trans (h.old b hb'), (hK _ (by omega)).trans h.k1, (hK _ (by omega)).trans h.k2, hn, h.snil,
    h.slt.go (Q := fun _ => False) (Kp.of hb) (fun x => x) hK, fun j hj => (h.tab j hj).go (Q := fun _ => False) (Kp.of hb) (fun x => x) (fun x => x) (fun _ x => x) hK, fun j hj => (h.unc j hj).go (Q := fun _ => False) (Kp.of hb) (fun x => x) (fun _ x => x) hK⟩

theorem place_set {v : Value} {b i : Nat} (hk : K' b = .place) : Kp K' (· = .place) wr (wr.setCell ⟨b, i, none⟩ v) := Kp.refl.set (by exact hk) _

theorem PR.tabs (h : PR w K A D A' st su K' wr) (hst : st < 2) {a : Option Addr} {c : Nat} (hT : TabOwn K' st wr a (D.t st)) :
    PR w K A D { A' with ta := fun j => if j = st then a else A'.ta j, tc := fun j => if j = st then c else A'.tc j } (st + 1) su K' (wr.setCell ⟨w.heap.size + 2, 11 + st, none⟩ (.slice a (D.t st).n c)) := by
  have hk : Kp K' (· = .place) wr (wr.setCell ⟨w.heap.size + 2, 11 + st, none⟩ (.slice a (D.t st).n c)) := place_set h.k2
  refine ⟨h.ps.set _ _, h.fix.of (fun i hi => set_out (by omega)) rfl rfl, all_succ (fun j hj => ?_) ?_, fun j hj => (set_out (by omega)).trans (h.u j hj), h.old, h.k1, h.k2, fun b hb => h.new b (by simpa using hb), h.snil, h.slt.go hk (by intro e; cases e) (fun _ _ => rfl), all_succ (fun j hj => ?_) ?_, fun j hj => (h.unc j hj).go hk (by intro e; cases e) (by intro i e; cases e) (fun _ _ => rfl)⟩
  · dsimp only
    rw [if_neg (by omega), if_neg (by omega)]
    exact (set_out (by omega)).trans (h.t j hj)
  · dsimp only
    rw [if_pos rfl, if_pos rfl]
    exact set_some (h.ps.q.1 _ (by omega))
  · dsimp only
    rw [if_neg (by omega)]
    exact (h.tab j hj).go hk (by intro e; cases e) (by intro e; cases e) (by intro i e; cases e) (fun _ _ => rfl)
  · dsimp only
    rw [if_pos rfl]
    exact hT.go hk (by intro e; cases e) (by intro e; cases e) (by intro i e; cases e) (fun _ _ => rfl)

theorem PR.uncs (h : PR w K A D A' st su K' wr) (hsu : su < 2) (hst : st ≤ 2) {a : Option Addr} {c : Nat} (hT : TabUOwn K' su wr a (D.u su)) :
    PR w K A D { A' with ua := fun j => if j = su then a else A'.ua j, uc := fun j => if j = su then c else A'.uc j } st (su + 1) K' (wr.setCell ⟨w.heap.size + 2, 13 + su, none⟩ (.slice a (D.u su).n c)) := by
  have hk : Kp K' (· = .place) wr (wr.setCell ⟨w.heap.size + 2, 13 + su, none⟩ (.slice a (D.u su).n c)) := place_set h.k2
  refine ⟨h.ps.set _ _, h.fix.of (fun i hi => set_out (by omega)) rfl rfl, fun j hj => (set_out (by omega)).trans (h.t j hj), all_succ (fun j hj => ?_) ?_, h.old, h.k1, h.k2, fun b hb => h.new b (by simpa using hb), h.snil, h.slt.go hk (by intro e; cases e) (fun _ _ => rfl), fun j hj => (h.tab j hj).go hk (by intro e; cases e) (by intro e; cases e) (by intro i e; cases e) (fun _ _ => rfl), all_succ (fun j hj => ?_) ?_⟩
  · dsimp only
    rw [if_neg (by omega), if_neg (by omega)]
    exact (set_out (by omega)).trans (h.u j hj)
  · dsimp only
    rw [if_pos rfl, if_pos rfl]
    exact set_some (h.ps.q.1 _ (by omega))
  · dsimp only
    rw [if_neg (by omega)]
    exact (h.unc j hj).go hk (by intro e; cases e) (by intro i e; cases e) (fun _ _ => rfl)
  · dsimp only
    rw [if_pos rfl]
    exact hT.go hk (by intro e; cases e) (by intro i e; cases e) (fun _ _ => rfl)
end

/-- The copy, but for the place's own cells. -/
def Copy (K : Nat → Key) (w : World) (A : Adr) (D : Plc) : Prop :=
  A.sa.isNone = D.snil ∧ SltOwn K w A.sa D.sn D.sl ∧ (∀ s, s < 2 → TabOwn K s w (A.ta s) (D.t s)) ∧ (∀ s, s < 2 → TabUOwn K s w (A.ua s) (D.u s))

theorem Copy.go {K K' : Nat → Key} {Q : Key → Prop} {w w' : World} {A : Adr} {D : Plc} (h : Copy K w A D) (hk : Kp K Q w w') (h0 : ¬ Q .other) (h1 : ¬ Q .slots) (h2 : ¬ Q .tab) (h3 : ∀ s i, ¬ Q (.row s i)) (h4 : ∀ s i, ¬ Q (.urow s i)) (hK : ∀ b, b < w.heap.size → K' b = K b) : Copy K' w' A D :=
  ⟨h.1, h.2.1.go hk h1 hK, fun s hs => (h.2.2.1 s hs).go hk h0 h2 (h3 s) hK, fun s hs => (h.2.2.2 s hs).go hk h2 (h4 s) hK⟩

theorem Copy.pl {K : Nat → Key} {w : World} {A : Adr} {D : Plc} (h : Copy K w A D) : PlIn w A D := ⟨h.1, h.2.1.row, fun s hs => (h.2.2.1 s hs).row, fun s hs => (h.2.2.2 s hs).row⟩

/-! ### Slots in the making. -/
def put5 (w : World) (q o : Nat) (x0 x1 x2 x3 x4 : Value) : World :=
  ((((w.setCell ⟨q, o, none⟩ x0).setCell ⟨q, o + 1, none⟩ x1).setCell ⟨q, o + 2, none⟩ x2).setCell ⟨q, o + 3, none⟩ x3).setCell ⟨q, o + 4, none⟩ x4
section
variable {w : World} {q o m : Nat} {x0 x1 x2 x3 x4 : Value}
theorem put5_only : Only q o 5 w (put5 w q o x0 x1 x2 x3 x4) :=
  ((((Only.refl.set (by omega) (by omega) _).set (by omega) (by omega) _).set (by omega) (by omega) _).set (by omega) (by omega) _).set (by omega) (by omega) _
theorem put5_room {b : Nat} (h : Room w b m) : Room (put5 w q o x0 x1 x2 x3 x4) b m := ((((h.set _ _).set _ _).set _ _).set _ _).set _ _
theorem put5_below {B : Nat} {a : World} (hq : B ≤ q) (h : Below B a w) : Below B a (put5 w q o x0 x1 x2 x3 x4) :=
  ((((h.setCell (by exact hq) _).setCell (by exact hq) _).setCell (by exact hq) _).setCell (by exact hq) _).setCell (by exact hq) _
theorem put5_cells (h : Room w q m) (ho : o + 5 ≤ m) : (put5 w q o x0 x1 x2 x3 x4).cell? ⟨q, o, none⟩ = some x0 ∧ (put5 w q o x0 x1 x2 x3 x4).cell? ⟨q, o + 1, none⟩ = some x1 ∧ (put5 w q o x0 x1 x2 x3 x4).cell? ⟨q, o + 2, none⟩ = some x2 ∧
    (put5 w q o x0 x1 x2 x3 x4).cell? ⟨q, o + 3, none⟩ = some x3 ∧ (put5 w q o x0 x1 x2 x3 x4).cell? ⟨q, o + 4, none⟩ = some x4 := by
  have r1 := h.set ⟨q, o, none⟩ x0
  have r2 := r1.set ⟨q, o + 1, none⟩ x1
  have r3 := r2.set ⟨q, o + 2, none⟩ x2
  have r4 := r3.set ⟨q, o + 3, none⟩ x3
  refine ⟨?_, ?_, ?_, ?_, ?_⟩
  · exact (set_out (by omega)).trans ((set_out (by omega)).trans ((set_out (by omega)).trans ((set_out (by omega)).trans (set_some (h.1 _ (by omega))))))
  · exact (set_out (by omega)).trans ((set_out (by omega)).trans ((set_out (by omega)).trans (set_some (r1.1 _ (by omega)))))
  · exact (set_out (by omega)).trans ((set_out (by omega)).trans (set_some (r2.1 _ (by omega))))
  · exact (set_out (by omega)).trans (set_some (r3.1 _ (by omega)))
  · exact set_some (r4.1 _ (by omega))
end

structure SP (q n : Nat) (f : Nat → Slt) (d : Nat) (w : World) : Prop where
  lt : q < w.heap.size
  room : Room w q (n * 5)
  slts : ∀ j, j < d → SltCells w q (j * 5) (f j)

theorem SP.step {q n d : Nat} {f : Nat → Slt} {w w2 : World} (h : SP q n f d w) (hd : d < n) (hb : Below w.heap.size w w2) :
    SP q n f (d + 1) (put5 w2 q (d * 5) (.string (f d).child) (.string (f d).lo) (.string (f d).hi) (.int .i64 (f d).vac) (.int .i64 (f d).hgt)) := by
  have hlt := h.lt
  have hs := hb.size
  have hroom : Room w2 q (n * 5) := h.room.below hb hlt
  have ho := put5_only (w := w2) (q := q) (o := d * 5) (x0 := .string (f d).child) (x1 := .string (f d).lo) (x2 := .string (f d).hi) (x3 := .int .i64 (f d).vac) (x4 := .int .i64 (f d).hgt)
  refine ⟨Nat.lt_of_lt_of_le hlt (Nat.le_trans hs ho.size), put5_room hroom, all_succ (fun j hj => ?_) (put5_cells hroom (by omega))⟩
  obtain ⟨c0, c1, c2, c3, c4⟩ := h.slts j hj
  exact ⟨(ho.cell _ (by omega)).trans ((hb.cell (by exact hlt)).trans c0), (ho.cell _ (by omega)).trans ((hb.cell (by exact hlt)).trans c1), (ho.cell _ (by omega)).trans ((hb.cell (by exact hlt)).trans c2), (ho.cell _ (by omega)).trans ((hb.cell (by exact hlt)).trans c3), (ho.cell _ (by omega)).trans ((hb.cell (by exact hlt)).trans c4)⟩
end Go.Proofs.Qxb6623423a.Seat
