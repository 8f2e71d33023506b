/- Seat b6623423a: a table in the making. -/
import Derived.Test.Qxb6623423aSeatToEnt
namespace Go.Proofs.Qxb6623423a.Seat
open Go.RowKit

/-- One key more. -/
def upd (K : Nat → Key) (q : Nat) (k : Key) : Nat → Key := fun b => if b = q then k else K b
theorem upd_same (K : Nat → Key) (q : Nat) (k : Key) : upd K q k q = k := if_pos rfl
theorem upd_other (K : Nat → Key) {q b : Nat} (k : Key) (h : b ≠ q) : upd K q k b = K b := if_neg h

/-- Rows that stand by their keys. -/
structure Goes (rk : Nat → Key) (RO : (Nat → Key) → Nat → World → Option Addr → Prop) : Prop where
  inj : ∀ i j, rk i = rk j → i = j
  other : ∀ i, rk i ≠ .other
  tab : ∀ i, rk i ≠ .tab
  go : ∀ {K K' : Nat → Key} {Q : Key → Prop} {w w' : World} {i : Nat} {a : Option Addr}, RO K i w a → Kp K Q w w' → ¬ Q .other → ¬ Q (rk i) → (∀ b, b < w.heap.size → K' b = K b) → RO K' i w' a

/-- A table at the block where w ends: k rows of n are laid. -/
structure TT (w : World) (K : Nat → Key) (n : Nat) (len : Nat → Nat) (RO : (Nat → Key) → Nat → World → Option Addr → Prop) (k : Nat) (K' : Nat → Key) (wr : World) : Prop where
  bel : Below w.heap.size w wr
  lt : w.heap.size < wr.heap.size
  old : ∀ b, b < w.heap.size → K' b = K b
  new : ∀ b, wr.heap.size ≤ b → K' b = .other
  key : K' w.heap.size = .tab
  unf : Unf wr w.heap.size
  rows : ∀ i, i < k → ∃ ra rc, wr.cell? ⟨w.heap.size, i, none⟩ = some (.slice ra (len i) rc) ∧ RO K' i wr ra
  rest : ∀ i, k ≤ i → i < n → wr.cell? ⟨w.heap.size, i, none⟩ = some (.slice none 0 0)

section
variable {rk : Nat → Key} {RO : (Nat → Key) → Nat → World → Option Addr → Prop} {w : World} {K : Nat → Key} {n : Nat} {len : Nat → Nat} {k : Nat} {K' : Nat → Key} {wr w2 : World}

theorem TT.start (hK : ∀ b, w.heap.size ≤ b → K b = .other) (e : TypeId) : TT w K n len RO 0 (upd K w.heap.size .tab) (w.alloc (.cells (madeCells #[.slice none 0 0] n) e)) := by
  refine ⟨(Below.refl _ _).alloc (Nat.le_refl _) _, by simp, fun b hb => upd_other _ _ (by omega), fun b hb => ?_, upd_same _ _ _, unf_of (heap_alloc_new _ _), all_zero, fun i _ hi => ?_⟩
  · simp at hb
    exact (upd_other _ _ (by omega)).trans (hK b (by omega))
  · rw [cells_box (heap_alloc_new _ _)]
    simp [madeCells, hi, Nat.mod_one]

theorem TT.nil (h : TT w K n len RO k K' wr) (hk : k < n) (hl : len k = 0) (hr : RO K' k wr none) : TT w K n len RO (k + 1) K' wr :=
  ⟨h.bel, h.lt, h.old, h.new, h.key, h.unf, all_succ h.rows ⟨none, 0, by rw [hl]; exact h.rest k (Nat.le_refl _) hk, hr⟩, fun i hi hn => h.rest i (by omega) hn⟩

theorem TT.open (hg : Goes rk RO) (h : TT w K n len RO k K' wr) (o : Obj) : TT w K n len RO k (upd K' wr.heap.size (rk k)) (wr.alloc o) := by
  have hb : Below wr.heap.size wr (wr.alloc o) := (Below.refl _ _).alloc (Nat.le_refl _) o
  have hlt := h.lt
  refine ⟨h.bel.trans (hb.mono (by omega)), by simp; omega, fun b hb' => (upd_other _ _ (by omega)).trans (h.old b hb'), fun b hb' => ?_, (upd_other _ _ (by omega)).trans h.key, fun i => (hb.frozen (by exact hlt)).trans (h.unf i), fun i hi => ?_, fun i h1 h2 => (hb.cell (by exact hlt)).trans (h.rest i h1 h2)⟩
  · simp at hb'
    exact (upd_other _ _ (by omega)).trans (h.new b (by omega))
  · obtain ⟨ra, rc, h1, h2⟩ := h.rows i hi
    exact ⟨ra, rc, (hb.cell (by exact hlt)).trans h1, hg.go (Q := fun _ => False) h2 (Kp.of hb) (fun x => x) (fun x => x) (fun b hb' => upd_other _ _ (by omega))⟩

theorem TT.step (hg : Goes rk RO) (h : TT w K n len RO k K' wr) (hk : Kp K' (· = rk k) wr w2) (hb : Below w.heap.size wr w2) : TT w K n len RO k K' w2 := by
  have hne : ¬ (K' w.heap.size = rk k) := by rw [h.key]; exact fun e => hg.tab k e.symm
  refine ⟨h.bel.trans hb, Nat.lt_of_lt_of_le h.lt hk.size, h.old, fun b hb' => h.new b (Nat.le_trans hk.size hb'), h.key, h.unf.kp hk h.lt hne, fun i hi => ?_, fun i h1 h2 => (hk.cell (by exact h.lt) (by exact hne)).trans (h.rest i h1 h2)⟩
  obtain ⟨ra, rc, h1, h2⟩ := h.rows i hi
  exact ⟨ra, rc, (hk.cell (by exact h.lt) (by exact hne)).trans h1, hg.go (Q := (· = rk k)) h2 hk (fun e => hg.other k e.symm) (fun e => absurd (hg.inj _ _ e) (by omega)) (fun _ _ => rfl)⟩

theorem TT.shut (hg : Goes rk RO) (h : TT w K n len RO k K' wr) (hk : k < n) (ra : Option Addr) (rc : Nat) (hr : RO K' k wr ra) : TT w K n len RO (k + 1) K' (wr.setCell ⟨w.heap.size, k, none⟩ (.slice ra (len k) rc)) := by
  have hq : Kp K' (· = .tab) wr (wr.setCell ⟨w.heap.size, k, none⟩ (.slice ra (len k) rc)) := Kp.refl.set (by exact h.key) _
  have ho : ∀ i a, RO K' i wr a → RO K' i (wr.setCell ⟨w.heap.size, k, none⟩ (.slice ra (len k) rc)) a := fun i a hi => hg.go (Q := (· = .tab)) hi hq (by intro e; cases e) (fun e => hg.tab i e) (fun _ _ => rfl)
  refine ⟨h.bel.setCell (Nat.le_refl _) _, by simpa using h.lt, h.old, fun b hb => h.new b (by simpa using hb), h.key, fun i => (World.frozen?_setCell _ _ _ _).trans (h.unf i), all_succ (fun i hi => ?_) ⟨ra, rc, set_in (h.rest k (Nat.le_refl _) hk), ho k ra hr⟩, fun i h1 h2 => (set_out (by omega)).trans (h.rest i (by omega) h2)⟩
  obtain ⟨ra', rc', h1, h2⟩ := h.rows i hi
  exact ⟨ra', rc', (set_out (by omega)).trans h1, ho i ra' h2⟩

/-- Seven cells written. -/
def put7 (w : World) (q o : Nat) (x0 x1 x2 x3 x4 x5 x6 : Value) : World :=
  ((((((w.setCell ⟨q, o, none⟩ x0).setCell ⟨q, o + 1, none⟩ x1).setCell ⟨q, o + 2, none⟩ x2).setCell ⟨q, o + 3, none⟩ x3).setCell ⟨q, o + 4, none⟩ x4).setCell ⟨q, o + 5, none⟩ x5).setCell ⟨q, o + 6, none⟩ x6
def put3 (w : World) (q o : Nat) (x0 x1 x2 : Value) : World := ((w.setCell ⟨q, o, none⟩ x0).setCell ⟨q, o + 1, none⟩ x1).setCell ⟨q, o + 2, none⟩ x2

section
variable {q o m : Nat} {x0 x1 x2 x3 x4 x5 x6 : Value}
theorem put7_only : Only q o 7 w (put7 w q o x0 x1 x2 x3 x4 x5 x6) :=
  ((((((Only.refl.set (by omega) (by omega) _).set (by omega) (by omega) _).set (by omega) (by omega) _).set (by omega) (by omega) _).set (by omega) (by omega) _).set (by omega) (by omega) _).set (by omega) (by omega) _
theorem put3_only : Only q o 3 w (put3 w q o x0 x1 x2) := ((Only.refl.set (by omega) (by omega) _).set (by omega) (by omega) _).set (by omega) (by omega) _
theorem set_some {w : World} {p : Addr} {v : Value} (h : (w.cell? p).isSome = true) : (w.setCell p v).cell? p = some v := World.cell?_setCell_same' _ _ _ h
theorem put7_cells (h : Room w q m) (ho : o + 7 ≤ m) : Cel7 (put7 w q o x0 x1 x2 x3 x4 x5 x6) q o x0 x1 x2 x3 x4 x5 x6 := by
  have r1 := h.set ⟨q, o, none⟩ x0
  have r2 := r1.set ⟨q, o + 1, none⟩ x1
  have r3 := r2.set ⟨q, o + 2, none⟩ x2
  have r4 := r3.set ⟨q, o + 3, none⟩ x3
  have r5 := r4.set ⟨q, o + 4, none⟩ x4
  have r6 := r5.set ⟨q, o + 5, none⟩ x5
  refine ⟨?_, ?_, ?_, ?_, ?_, ?_, ?_⟩
  · exact (set_out (by omega)).trans ((set_out (by omega)).trans ((set_out (by omega)).trans ((set_out (by omega)).trans ((set_out (by omega)).trans ((set_out (by omega)).trans (set_some (h.1 _ (by omega))))))))
  · exact (set_out (by omega)).trans ((set_out (by omega)).trans ((set_out (by omega)).trans ((set_out (by omega)).trans ((set_out (by omega)).trans (set_some (r1.1 _ (by omega)))))))
  · exact (set_out (by omega)).trans ((set_out (by omega)).trans ((set_out (by omega)).trans ((set_out (by omega)).trans (set_some (r2.1 _ (by omega))))))
  · exact (set_out (by omega)).trans ((set_out (by omega)).trans ((set_out (by omega)).trans (set_some (r3.1 _ (by omega)))))
  · exact (set_out (by omega)).trans ((set_out (by omega)).trans (set_some (r4.1 _ (by omega))))
  · exact (set_out (by omega)).trans (set_some (r5.1 _ (by omega)))
  · exact set_some (r6.1 _ (by omega))
theorem put3_cells (h : Room w q m) (ho : o + 3 ≤ m) : (put3 w q o x0 x1 x2).cell? ⟨q, o, none⟩ = some x0 ∧ (put3 w q o x0 x1 x2).cell? ⟨q, o + 1, none⟩ = some x1 ∧ (put3 w q o x0 x1 x2).cell? ⟨q, o + 2, none⟩ = some x2 := by
  have r1 := h.set ⟨q, o, none⟩ x0
  have r2 := r1.set ⟨q, o + 1, none⟩ x1
  refine ⟨?_, ?_, ?_⟩
  · exact (set_out (by omega)).trans ((set_out (by omega)).trans (set_some (h.1 _ (by omega))))
  · exact (set_out (by omega)).trans (set_some (r1.1 _ (by omega)))
  · exact set_some (r2.1 _ (by omega))
theorem put7_room {b : Nat} (h : Room w b m) : Room (put7 w q o x0 x1 x2 x3 x4 x5 x6) b m := ((((((h.set _ _).set _ _).set _ _).set _ _).set _ _).set _ _).set _ _
theorem put3_room {b : Nat} (h : Room w b m) : Room (put3 w q o x0 x1 x2) b m := ((h.set _ _).set _ _).set _ _
end
end

/-! ### A row in the making: d entries stand. -/
structure RP (K : Nat → Key) (s k q n : Nat) (e : Nat → Ent) (d : Nat) (w : World) : Prop where
  lt : q < w.heap.size
  key : K q = .row s k
  room : Room w q (n * 7)
  ents : ∀ j, j < d → EntOwn K w q (j * 7) (e j)

structure RPU (K : Nat → Key) (s k q n : Nat) (u : Nat → Sub) (d : Nat) (w : World) : Prop where
  lt : q < w.heap.size
  key : K q = .urow s k
  room : Room w q (n * 3)
  subs : ∀ j, j < d → SubCells w q (j * 3) (u j)

section
variable {K : Nat → Key} {s k q n d : Nat} {e : Nat → Ent} {u : Nat → Sub} {w w2 : World}
/-- A new entry, then its seven cells. -/
theorem RP.step (h : RP K s k q n e d w) (hd : d < n) (hn : ∀ b, w.heap.size ≤ b → K b = .other) (hb : Below w.heap.size w w2) {ca sa : Option Addr} {cc sc : Nat} (h1 : ca.isNone = (e d).cnil) (h2 : sa.isNone = (e d).snil)
    (h3 : NewS w.heap.size w2 ca (e d).cn (e d).ch) (h4 : NewP w.heap.size w2 sa (e d).sn (e d).slo (e d).shi) :
    RP K s k q n e (d + 1) (put7 w2 q (d * 7) (.string (e d).peer) (.string (e d).lo) (.string (e d).hi) (.string (e d).plo) (.string (e d).phi) (.slice ca (e d).cn cc) (.slice sa (e d).sn sc)) := by
  have hlt := h.lt
  have hs := hb.size
  have hroom : Room w2 q (n * 7) := h.room.below hb hlt
  have ho := put7_only (w := w2) (q := q) (o := d * 7) (x0 := .string (e d).peer) (x1 := .string (e d).lo) (x2 := .string (e d).hi) (x3 := .string (e d).plo) (x4 := .string (e d).phi) (x5 := .slice ca (e d).cn cc) (x6 := .slice sa (e d).sn sc)
  have hkp : Kp K (· = .row s k) w (put7 w2 q (d * 7) (.string (e d).peer) (.string (e d).lo) (.string (e d).hi) (.string (e d).plo) (.string (e d).phi) (.slice ca (e d).cn cc) (.slice sa (e d).sn sc)) :=
    (Kp.of hb).trans (h.key ▸ ho.kp)
  refine ⟨Nat.lt_of_lt_of_le hlt hkp.size, h.key, put7_room hroom, all_succ (fun j hj => ?_) ?_⟩
  · exact (h.ents j hj).go' hkp (by intro e; cases e) (fun _ _ => rfl) (fun i h1 h2 => (ho.cell i (by omega)).trans (hb.cell (by exact hlt)))
  · refine ⟨ca, sa, cc, sc, put7_cells hroom (by omega), h1, h2, ?_, ?_⟩
    · rcases h3 with h3 | ⟨b, rfl, hB, hb', hc⟩
      · exact Or.inl h3
      · exact Or.inr ⟨b, rfl, Nat.lt_of_lt_of_le hb' ho.size, hn b hB, fun j hj => (ho.other (by exact hb') (by show b ≠ q; omega)).trans (hc j hj)⟩
    · rcases h4 with h4 | ⟨b, rfl, hB, hb', hc⟩
      · exact Or.inl h4
      · exact Or.inr ⟨b, rfl, Nat.lt_of_lt_of_le hb' ho.size, hn b hB, fun j hj => ⟨(ho.other (by exact hb') (by show b ≠ q; omega)).trans (hc j hj).1, (ho.other (by exact hb') (by show b ≠ q; omega)).trans (hc j hj).2⟩⟩
theorem RP.kp (h : RP K s k q n e d w) (hb : Below w.heap.size w w2) {x0 x1 x2 x3 x4 x5 x6 : Value} : Kp K (· = .row s k) w (put7 w2 q (d * 7) x0 x1 x2 x3 x4 x5 x6) := (Kp.of hb).trans (h.key ▸ put7_only.kp)
theorem RP.done {R : RowE} (h : RP K s k q R.n R.e R.n w) (hnil : R.isnil = false) : RowOwn K s k w (some ⟨q, 0, none⟩) R :=
  ⟨hnil.symm, Or.inr ⟨q, rfl, h.lt, h.key, h.room.2, h.ents⟩⟩

theorem RPU.step (h : RPU K s k q n u d w) (hd : d < n) (hb : Below w.heap.size w w2) :
    RPU K s k q n u (d + 1) (put3 w2 q (d * 3) (.string (u d).peer) (.string (u d).lo) (.string (u d).hi)) := by
  have hlt := h.lt
  have hs := hb.size
  have hroom : Room w2 q (n * 3) := h.room.below hb hlt
  have ho := put3_only (w := w2) (q := q) (o := d * 3) (x0 := .string (u d).peer) (x1 := .string (u d).lo) (x2 := .string (u d).hi)
  refine ⟨Nat.lt_of_lt_of_le hlt (Nat.le_trans hs ho.size), h.key, put3_room hroom, all_succ (fun j hj => ?_) (put3_cells hroom (by omega))⟩
  obtain ⟨c0, c1, c2⟩ := h.subs j hj
  exact ⟨(ho.cell _ (by omega)).trans ((hb.cell (by exact hlt)).trans c0), (ho.cell _ (by omega)).trans ((hb.cell (by exact hlt)).trans c1), (ho.cell _ (by omega)).trans ((hb.cell (by exact hlt)).trans c2)⟩
theorem RPU.kp (h : RPU K s k q n u d w) (hb : Below w.heap.size w w2) {x0 x1 x2 : Value} : Kp K (· = .urow s k) w (put3 w2 q (d * 3) x0 x1 x2) := (Kp.of hb).trans (h.key ▸ put3_only.kp)
theorem RPU.done {R : RowU} (h : RPU K s k q R.n R.u R.n w) (hnil : R.isnil = false) : RowUOwn K s k w (some ⟨q, 0, none⟩) R :=
  ⟨hnil.symm, Or.inr ⟨q, rfl, h.lt, h.key, h.room.2, h.subs⟩⟩
end

theorem goes_row (s : Nat) (T : TabE) : Goes (Key.row s) (fun K i w a => RowOwn K s i w a (T.r i)) :=
  ⟨fun i j e => (by injection e), fun i e => (by cases e), fun i e => (by cases e), fun h hk h1 h2 h3 => h.go hk h1 h2 h3⟩
theorem goes_urow (s : Nat) (T : TabU) : Goes (Key.urow s) (fun K i w a => RowUOwn K s i w a (T.r i)) :=
  ⟨fun i j e => (by injection e), fun i e => (by cases e), fun i e => (by cases e), fun h hk _ h2 h3 => h.go hk h2 h3⟩
end Go.Proofs.Qxb6623423a.Seat
