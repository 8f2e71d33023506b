/- Seat b6623423a: zzToEntry. -/
import Derived.Test.Qxb6623423aSeatOwn
import Derived.Test.Qxb6623423aSeatMatch
namespace Go.Proofs.Qxb6623423a.Seat
open Go.RowKit

/-- 'make' of a known length: a new block. -/
theorem make_any {P : Program} (t e : TypeId) (sz bytes : Nat) (ht : P.underlying t = some (.slice e)) (hinfo : (P.info? e).map (fun i => (i.zero.isSome, i.size, i.bytes)) = some (true, sz, bytes)) (n : Nat) (hbytes : bytes * n ≤ 281474976710656) (h63 : n ≤ 9223372036854775807) :
    ∃ z : Array Value, ∀ w, (Instr.makeSlice t (.int .i64 (n : Int)) (.int .i64 (n : Int))).run P w = .ok (.slice (some ⟨w.heap.size, 0, none⟩) n n) (w.alloc (.cells (madeCells z (n * sz)) e)) := by
  obtain ⟨i, hi, hzz⟩ := Option.map_eq_some_iff.1 hinfo
  simp only [Prod.mk.injEq] at hzz
  obtain ⟨hz, hs, hb⟩ := hzz
  obtain ⟨z, hz⟩ := Option.isSome_iff_exists.1 hz
  refine ⟨z.cells, fun w => ?_⟩
  have hb' : (i.bytes : Int) * (n : Int) ≤ 281474976710656 := by
    have h : ((i.bytes * n : Nat) : Int) ≤ 281474976710656 := by rw [hb]; omega
    rwa [Int.natCast_mul] at h
  have hr := run_make (P := P) w t e i z ht hi hz .i64 .i64 n n (by omega) (Int.le_refl _) hb' (by omega)
  simp only [Int.toNat_natCast, hs] at hr
  exact hr

theorem info38 : (Try.prog.info? 38).map (fun i => (i.zero.isSome, i.size, i.bytes)) = some (true, 1, 16) := by kernel_rfl
theorem info37 : (Try.prog.info? 37).map (fun i => (i.zero.isSome, i.size, i.bytes)) = some (true, 2, 32) := by kernel_rfl
theorem info80 : (Try.prog.info? 80).map (fun i => (i.zero.isSome, i.size, i.bytes)) = some (true, 7, 128) := by kernel_rfl
theorem info84 : (Try.prog.info? 84).map (fun i => (i.zero.isSome, i.size, i.bytes)) = some (true, 3, 48) := by kernel_rfl
theorem info68 : (Try.prog.info? 68).map (fun i => (i.zero.isSome, i.size, i.bytes)) = some (true, 5, 64) := by kernel_rfl
theorem info76 : (Try.prog.info? 76).map (fun i => (i.zero.isSome, i.size, i.bytes)) = some (true, 1, 24) := by kernel_rfl
theorem info82 : (Try.prog.info? 82).map (fun i => (i.zero.isSome, i.size, i.bytes)) = some (true, 1, 24) := by kernel_rfl

/-- A block of m cells that no mark freezes. -/
def Room (w : World) (b m : Nat) : Prop := (∀ i, i < m → (w.cell? ⟨b, i, none⟩).isSome = true) ∧ Unf w b

section
variable {w w' : World} {b m : Nat}
theorem unf_of {N : Nat} {c : Array Value} {t : TypeId} (h : w.heap[N]? = some (.cells c t (0, 0))) : Unf w N := fun i => by simp [World.frozen?, h]
theorem Room.cells (w : World) (c : Array Value) (e : TypeId) : Room (w.alloc (.cells c e)) w.heap.size c.size :=
  ⟨fun i hi => by rw [cells_box (heap_alloc_new _ _)]; simp [hi], unf_of (heap_alloc_new _ _)⟩
theorem Room.made (w : World) (z : Array Value) (m : Nat) (e : TypeId) : Room (w.alloc (.cells (madeCells z m) e)) w.heap.size m := by
  have h := Room.cells w (madeCells z m) e
  rwa [size_madeCells] at h
theorem Room.block (h : Room w b m) (e : w'.heap[b]? = w.heap[b]?) : Room w' b m :=
  ⟨fun i hi => (congrArg Option.isSome (World.cell?_of_block (w := w) (by exact e))).trans (h.1 i hi), fun i => (World.frozen?_of_block (w := w) (by exact e)).trans (h.2 i)⟩
theorem Room.below {B : Nat} (h : Room w b m) (hb : Below B w w') (hlt : b < B) : Room w' b m := h.block (hb.block b hlt)
theorem isSome_set (a p : Addr) (v : Value) (h : (w.cell? p).isSome = true) : ((w.setCell a v).cell? p).isSome = true := by
  by_cases e : a = p
  · subst e; rw [World.cell?_setCell_same' _ _ _ h]; rfl
  · rw [World.cell?_setCell_other _ _ _ _ e]; exact h
theorem Room.set (h : Room w b m) (a : Addr) (v : Value) : Room (w.setCell a v) b m :=
  ⟨fun i hi => isSome_set _ _ _ (h.1 i hi), fun i => (World.frozen?_setCell _ _ _ _).trans (h.2 i)⟩
theorem Room.lt (h : Room w b m) (hm : 0 < m) : b < w.heap.size := by
  have h0 := h.1 0 hm
  by_cases hb : b < w.heap.size
  · exact hb
  · simp [World.cell?, Array.getElem?_eq_none (Nat.le_of_not_lt hb)] at h0
theorem Room.get (h : Room w b m) {i : Nat} (hi : i < m) : ∃ v, w.cell? ⟨b, i, none⟩ = some v := Option.isSome_iff_exists.1 (h.1 i hi)
end

/-- The new entry's seven cells. -/
def Cel7 (w : World) (b o : Nat) (x0 x1 x2 x3 x4 x5 x6 : Value) : Prop :=
  w.cell? ⟨b, o, none⟩ = some x0 ∧ w.cell? ⟨b, o + 1, none⟩ = some x1 ∧ w.cell? ⟨b, o + 2, none⟩ = some x2 ∧
  w.cell? ⟨b, o + 3, none⟩ = some x3 ∧ w.cell? ⟨b, o + 4, none⟩ = some x4 ∧ w.cell? ⟨b, o + 5, none⟩ = some x5 ∧ w.cell? ⟨b, o + 6, none⟩ = some x6

theorem Cel7.of {w w' : World} {b o : Nat} {x0 x1 x2 x3 x4 x5 x6 : Value} (h : Cel7 w b o x0 x1 x2 x3 x4 x5 x6) (e : w'.heap[b]? = w.heap[b]?) : Cel7 w' b o x0 x1 x2 x3 x4 x5 x6 := by
  have e' : ∀ i, w'.cell? ⟨b, i, none⟩ = w.cell? ⟨b, i, none⟩ := fun i => World.cell?_of_block (by exact e)
  unfold Cel7 at h ⊢
  simp only [e']
  exact h

structure St (w : World) (E : Ent) (ca sa : Option Addr) (cc sc : Nat) (x1 x2 x3 x4 x5 x6 : Value) (wr : World) : Prop where
  bel : Below w.heap.size w wr
  size : w.heap.size + 3 ≤ wr.heap.size
  box : EntCells wr w.heap.size 0 E ca sa cc sc
  r : Room wr (w.heap.size + 1) 7
  e : Cel7 wr (w.heap.size + 2) 0 (.string E.peer) x1 x2 x3 x4 x5 x6
  u : Unf wr (w.heap.size + 2)

section
variable {w : World} {E : Ent} {ca sa : Option Addr} {cc sc : Nat} {x1 x2 x3 x4 x5 x6 : Value} {wr w2 : World}
theorem St.next (h : St w E ca sa cc sc x1 x2 x3 x4 x5 x6 wr) (hb : Below (w.heap.size + 3) wr w2) : St w E ca sa cc sc x1 x2 x3 x4 x5 x6 w2 :=
  ⟨h.bel.trans (hb.mono (by omega)), Nat.le_trans h.size hb.size, h.box.of (fun i => hb.cell (by show w.heap.size < _; omega)), h.r.below hb (by omega), h.e.of (hb.block _ (by omega)), fun i => (hb.frozen (by show w.heap.size + 2 < _; omega)).trans (h.u i)⟩
theorem St.next' (h : St w E ca sa cc sc x1 x2 x3 x4 x5 x6 wr) (hb : Below wr.heap.size wr w2) : St w E ca sa cc sc x1 x2 x3 x4 x5 x6 w2 := h.next (hb.mono h.size)

theorem set_in {b i : Nat} {v u : Value} (h : wr.cell? ⟨b, i, none⟩ = some u) : (wr.setCell ⟨b, i, none⟩ v).cell? ⟨b, i, none⟩ = some v := World.cell?_setCell_same' _ _ _ (by rw [h]; rfl)
theorem set_out {b i b' j : Nat} {v : Value} (h : b ≠ b' ∨ i ≠ j) : (wr.setCell ⟨b, i, none⟩ v).cell? ⟨b', j, none⟩ = wr.cell? ⟨b', j, none⟩ :=
  World.cell?_setCell_other _ _ _ _ (by intro e; injection e with e1 e2; omega)

theorem St.set {x1' x2' x3' x4' x5' x6' : Value} (h : St w E ca sa cc sc x1 x2 x3 x4 x5 x6 wr) (i : Nat) (v : Value) (h7 : Cel7 (wr.setCell ⟨w.heap.size + 2, i, none⟩ v) (w.heap.size + 2) 0 (.string E.peer) x1' x2' x3' x4' x5' x6') :
    St w E ca sa cc sc x1' x2' x3' x4' x5' x6' (wr.setCell ⟨w.heap.size + 2, i, none⟩ v) :=
  ⟨h.bel.setCell (by show _ ≤ w.heap.size + 2; omega) _, by simpa using h.size, h.box.of (fun j => set_out (Or.inl (by omega))), h.r.set _ _, h7, fun j => (World.frozen?_setCell _ _ _ _).trans (h.u j)⟩

theorem St.set5 (h : St w E ca sa cc sc x1 x2 x3 x4 x5 x6 wr) (v : Value) : St w E ca sa cc sc x1 x2 x3 x4 v x6 (wr.setCell ⟨w.heap.size + 2, 5, none⟩ v) := by
  obtain ⟨c0, c1, c2, c3, c4, c5, c6⟩ := h.e
  exact h.set 5 v ⟨(set_out (by omega)).trans c0, (set_out (by omega)).trans c1, (set_out (by omega)).trans c2, (set_out (by omega)).trans c3, (set_out (by omega)).trans c4, set_in c5, (set_out (by omega)).trans c6⟩
theorem St.set6 (h : St w E ca sa cc sc x1 x2 x3 x4 x5 x6 wr) (v : Value) : St w E ca sa cc sc x1 x2 x3 x4 x5 v (wr.setCell ⟨w.heap.size + 2, 6, none⟩ v) := by
  obtain ⟨c0, c1, c2, c3, c4, c5, c6⟩ := h.e
  exact h.set 6 v ⟨(set_out (by omega)).trans c0, (set_out (by omega)).trans c1, (set_out (by omega)).trans c2, (set_out (by omega)).trans c3, (set_out (by omega)).trans c4, (set_out (by omega)).trans c5, set_in c6⟩
theorem St.set12 (h : St w E ca sa cc sc x1 x2 x3 x4 x5 x6 wr) (u v : Value) : St w E ca sa cc sc u v x3 x4 x5 x6 ((wr.setCell ⟨w.heap.size + 2, 1, none⟩ u).setCell ⟨w.heap.size + 2, 2, none⟩ v) := by
  obtain ⟨c0, c1, c2, c3, c4, c5, c6⟩ := h.e
  have h' := h.set 1 u ⟨(set_out (by omega)).trans c0, set_in c1, (set_out (by omega)).trans c2, (set_out (by omega)).trans c3, (set_out (by omega)).trans c4, (set_out (by omega)).trans c5, (set_out (by omega)).trans c6⟩
  obtain ⟨c0, c1, c2, c3, c4, c5, c6⟩ := h'.e
  exact h'.set 2 v ⟨(set_out (by omega)).trans c0, (set_out (by omega)).trans c1, set_in c2, (set_out (by omega)).trans c3, (set_out (by omega)).trans c4, (set_out (by omega)).trans c5, (set_out (by omega)).trans c6⟩
theorem St.set34 (h : St w E ca sa cc sc x1 x2 x3 x4 x5 x6 wr) (u v : Value) : St w E ca sa cc sc x1 x2 u v x5 x6 ((wr.setCell ⟨w.heap.size + 2, 3, none⟩ u).setCell ⟨w.heap.size + 2, 4, none⟩ v) := by
  obtain ⟨c0, c1, c2, c3, c4, c5, c6⟩ := h.e
  have h' := h.set 3 u ⟨(set_out (by omega)).trans c0, (set_out (by omega)).trans c1, (set_out (by omega)).trans c2, set_in c3, (set_out (by omega)).trans c4, (set_out (by omega)).trans c5, (set_out (by omega)).trans c6⟩
  obtain ⟨c0, c1, c2, c3, c4, c5, c6⟩ := h'.e
  exact h'.set 4 v ⟨(set_out (by omega)).trans c0, (set_out (by omega)).trans c1, (set_out (by omega)).trans c2, (set_out (by omega)).trans c3, set_in c4, (set_out (by omega)).trans c5, (set_out (by omega)).trans c6⟩
theorem St.start (w : World) (E : Ent) (ca sa : Option Addr) (cc sc : Nat) (y0 y1 y2 y3 y4 y5 y6 x1 x2 x3 x4 x5 x6 : Value) :
    St w E ca sa cc sc x1 x2 x3 x4 x5 x6 (((w.alloc (.cells (entC E ca sa cc sc) 59)).alloc (.cells #[y0, y1, y2, y3, y4, y5, y6] 80)).alloc (.cells #[.string E.peer, x1, x2, x3, x4, x5, x6] 80)) := by
  refine ⟨(((Below.refl _ _).alloc (Nat.le_refl _) _).alloc (by simp) _).alloc (by simp; omega) _, by simp, entCells_of (t := 59) ?_, ?_, ?_, ?_⟩
  · rw [Below.heap_alloc _ _ _ (by simp; omega), Below.heap_alloc _ _ _ (by simp)]
    exact heap_alloc_new w _
  · have := Room.cells (w.alloc (.cells (entC E ca sa cc sc) 59)) #[y0, y1, y2, y3, y4, y5, y6] 80
    simp only [World.size_alloc] at this
    exact this.block (Below.heap_alloc _ _ _ (by simp))
  · unfold Cel7
    have e := heap_alloc_new ((w.alloc (.cells (entC E ca sa cc sc) 59)).alloc (.cells #[y0, y1, y2, y3, y4, y5, y6] 80)) (.cells #[.string E.peer, x1, x2, x3, x4, x5, x6] 80)
    simp only [World.size_alloc] at e
    simp only [cells_box e]
    exact ⟨rfl, rfl, rfl, rfl, rfl, rfl, rfl⟩
  · have := (Room.cells ((w.alloc (.cells (entC E ca sa cc sc) 59)).alloc (.cells #[y0, y1, y2, y3, y4, y5, y6] 80)) #[.string E.peer, x1, x2, x3, x4, x5, x6] 80).2
    simpa using this
end

def NewS (B : Nat) (w : World) (a : Option Addr) (n : Nat) (f : Nat → ByteArray) : Prop :=
  n = 0 ∨ ∃ b, a = some ⟨b, 0, none⟩ ∧ B ≤ b ∧ b < w.heap.size ∧ ∀ j, j < n → w.cell? ⟨b, j, none⟩ = some (.string (f j))
def NewP (B : Nat) (w : World) (a : Option Addr) (n : Nat) (lo hi : Nat → ByteArray) : Prop :=
  n = 0 ∨ ∃ b, a = some ⟨b, 0, none⟩ ∧ B ≤ b ∧ b < w.heap.size ∧ ∀ j, j < n → w.cell? ⟨b, j * 2, none⟩ = some (.string (lo j)) ∧ w.cell? ⟨b, j * 2 + 1, none⟩ = some (.string (hi j))

theorem neNil56 (a : Option Addr) (n c : Nat) (w : World) : (binOp .neq 56 (.slice a n c) (.slice none 0 0)).run Try.prog w = .ok (.bool (!a.isNone)) w := run_neq_slice_nil_any w 56 _ a n c 0 0 Try.underlying56
theorem neNil57 (a : Option Addr) (n c : Nat) (w : World) : (binOp .neq 57 (.slice a n c) (.slice none 0 0)).run Try.prog w = .ok (.bool (!a.isNone)) w := run_neq_slice_nil_any w 57 _ a n c 0 0 Try.underlying57

section
variable {B g o m : Nat} {w w' : World} {a : Option Addr} {n : Nat}
theorem NewS.only {f : Nat → ByteArray} (h : NewS B w a n f) (ho : Only g o m w w') (hne : ∀ b, a = some ⟨b, 0, none⟩ → b ≠ g) : NewS B w' a n f := by
  rcases h with h | ⟨b, rfl, hB, hb, hc⟩
  · exact Or.inl h
  · exact Or.inr ⟨b, rfl, hB, Nat.lt_of_lt_of_le hb ho.size, fun j hj => (ho.other (by exact hb) (by exact hne b rfl)).trans (hc j hj)⟩
theorem NewS.next {f : Nat → ByteArray} (h : NewS B w a n f) (ho : Below w.heap.size w w') : NewS B w' a n f := by
  rcases h with h | ⟨b, rfl, hB, hb, hc⟩
  · exact Or.inl h
  · exact Or.inr ⟨b, rfl, hB, Nat.lt_of_lt_of_le hb ho.size, fun j hj => (ho.cell (by exact hb)).trans (hc j hj)⟩
theorem NewP.only {lo hi : Nat → ByteArray} (h : NewP B w a n lo hi) (ho : Only g o m w w') (hne : ∀ b, a = some ⟨b, 0, none⟩ → b ≠ g) : NewP B w' a n lo hi := by
  rcases h with h | ⟨b, rfl, hB, hb, hc⟩
  · exact Or.inl h
  · exact Or.inr ⟨b, rfl, hB, Nat.lt_of_lt_of_le hb ho.size, fun j hj => ⟨(ho.other (by exact hb) (by exact hne b rfl)).trans (hc j hj).1, (ho.other (by exact hb) (by exact hne b rfl)).trans (hc j hj).2⟩⟩
theorem one_set {i : Nat} {v : Value} : Only g i 1 w (w.setCell ⟨g, i, none⟩ v) := Only.refl.set (Nat.le_refl _) (by omega) v
end

set_option maxRecDepth 100000 in
set_option maxHeartbeats 1000000 in
theorem to_entry (E : Ent) (ca sa : Option Addr) (cc sc : Nat) (w : World) (h : EntIn w ca sa E) (hcn : E.cn ≤ 1048576) (hsn : E.sn ≤ 1048576) :
    Calls Try.prog 22 #[.agg #[.string E.peer, .string E.lo, .string E.hi, .string E.plo, .string E.phi, .slice ca E.cn cc, .slice sa E.sn sc]] w fun e w' => ∃ (ca' sa' : Option Addr) (cc' sc' : Nat),
      e = .returned (.agg #[.string E.peer, .string E.lo, .string E.hi, .string E.plo, .string E.phi, .slice ca' E.cn cc', .slice sa' E.sn sc']) ∧ Below w.heap.size w w' ∧
      ca'.isNone = E.cnil ∧ sa'.isNone = E.snil ∧ NewS w.heap.size w' ca' E.cn E.ch ∧ NewP w.heap.size w' sa' E.sn E.slo E.shi := by
  have n1 := neNil56
  have n2 := neNil57
  obtain ⟨z1, m1⟩ := make_any (P := Try.prog) 77 38 1 16 Try.underlying77 info38 E.cn (by omega) (by omega)
  obtain ⟨z2, m2⟩ := make_any (P := Try.prog) 78 37 2 32 Try.underlying78 info37 E.sn (by omega) (by omega)
  have H := hidm h
  clear h
  cases ca with
  | none =>
    cases sa with
    | none =>
      go_enter Try.func22, Try.ntmps22
      go_wp2_with fail
      refine (toSlice _ _ _).mono ?_
      rintro e w2 ⟨rfl, hb2⟩
      have s2 := (St.start _ _ _ _ _ _ _ _ _ _ _ _ _ _ _ _ _ _ _).next' hb2
      clear hb2
      obtain ⟨_, _, _, b3, b4, _, _⟩ := s2.box
      obtain ⟨_, c1, c2, _, _, _, _⟩ := s2.e
      simp only [Nat.zero_add] at b3 b4 c1 c2
      have fr : ∀ i, w2.frozen? ⟨w.heap.size + 2, i, none⟩ = false := s2.u
      go_wp2_with fail
      refine (toSlice _ _ _).mono ?_
      rintro e w4 ⟨rfl, hb4⟩
      have s4 := (s2.set12 _ _).next' hb4
      clear hb4 s2 b3 b4 c1 c2 fr
      obtain ⟨_, _, _, _, _, b5, b6⟩ := s4.box
      obtain ⟨c0, c1, c2, c3, c4, c5, c6⟩ := s4.e
      simp only [Nat.zero_add] at b5 b6 c0 c1 c2 c3 c4 c5 c6
      have fr : ∀ i, w4.frozen? ⟨w.heap.size + 2, i, none⟩ = false := s4.u
      have fr' : ∀ i, w4.frozen? ⟨w.heap.size + 1, i, none⟩ = false := s4.r.2
      obtain ⟨v0, r0⟩ := s4.r.get (i := 0) (by omega)
      obtain ⟨v1, r1⟩ := s4.r.get (i := 1) (by omega)
      obtain ⟨v2, r2⟩ := s4.r.get (i := 2) (by omega)
      obtain ⟨v3, r3⟩ := s4.r.get (i := 3) (by omega)
      obtain ⟨v4, r4⟩ := s4.r.get (i := 4) (by omega)
      obtain ⟨v5, r5⟩ := s4.r.get (i := 5) (by omega)
      obtain ⟨v6, r6⟩ := s4.r.get (i := 6) (by omega)
      go_wp2_with fail
      have hc0 : E.cn = 0 := by
        rcases H.out.2.2.1 with h | ⟨_, _, h, _⟩
        · exact h
        · cases h
      have hs0 : E.sn = 0 := by
        rcases H.out.2.2.2 with h | ⟨_, _, h, _⟩
        · exact h
        · cases h
      refine bodyPost_ret (v := .agg #[.string E.peer, .string E.lo, .string E.hi, .string E.plo, .string E.phi, .slice none 0 0, .slice none 0 0]) ?_ rfl ?_
      · simp [results, Try.results22, go_sem, r0, r1, r2, r3, r4, r5, r6]
      · refine ⟨none, none, 0, 0, by rw [hc0, hs0], ?_, H.out.1, H.out.2.1, ?_, ?_⟩
        · exact (by repeat (first | refine Below.setCell ?_ (by dsimp only; omega) _ | exact s4.bel))
        · exact Or.inl hc0
        · exact Or.inl hs0
    | some ad2 =>
      go_enter Try.func22, Try.ntmps22
      go_wp2_with fail
      refine (toSlice _ _ _).mono ?_
      rintro e w2 ⟨rfl, hb2⟩
      have s2 := (St.start _ _ _ _ _ _ _ _ _ _ _ _ _ _ _ _ _ _ _).next' hb2
      clear hb2
      obtain ⟨_, _, _, b3, b4, _, _⟩ := s2.box
      obtain ⟨_, c1, c2, _, _, _, _⟩ := s2.e
      simp only [Nat.zero_add] at b3 b4 c1 c2
      have fr : ∀ i, w2.frozen? ⟨w.heap.size + 2, i, none⟩ = false := s2.u
      go_wp2_with fail
      refine (toSlice _ _ _).mono ?_
      rintro e w4 ⟨rfl, hb4⟩
      have s4 := (s2.set12 _ _).next' hb4
      clear hb4 s2 b3 b4 c1 c2 fr
      obtain ⟨_, _, _, _, _, b5, b6⟩ := s4.box
      obtain ⟨c0, c1, c2, c3, c4, c5, c6⟩ := s4.e
      simp only [Nat.zero_add] at b5 b6 c0 c1 c2 c3 c4 c5 c6
      have fr : ∀ i, w4.frozen? ⟨w.heap.size + 2, i, none⟩ = false := s4.u
      have fr' : ∀ i, w4.frozen? ⟨w.heap.size + 1, i, none⟩ = false := s4.r.2
      obtain ⟨v0, r0⟩ := s4.r.get (i := 0) (by omega)
      obtain ⟨v1, r1⟩ := s4.r.get (i := 1) (by omega)
      obtain ⟨v2, r2⟩ := s4.r.get (i := 2) (by omega)
      obtain ⟨v3, r3⟩ := s4.r.get (i := 3) (by omega)
      obtain ⟨v4, r4⟩ := s4.r.get (i := 4) (by omega)
      obtain ⟨v5, r5⟩ := s4.r.get (i := 5) (by omega)
      obtain ⟨v6, r6⟩ := s4.r.get (i := 6) (by omega)
      go_wp2_with fail
      have hc0 : E.cn = 0 := by
        rcases H.out.2.2.1 with h | ⟨_, _, h, _⟩
        · exact h
        · cases h
      have HC0 := hidm hc0
      clear hc0
      have hg3 := s4.size
      go_loopw [7] (fun i wr => ∃ k : Nat, k ≤ E.sn ∧ i = .int .i64 k ∧ St w E none (some ad2) cc sc (.string E.lo) (.string E.hi) (.string E.plo) (.string E.phi) (.slice none 0 0) (.slice none 0 0) wr ∧ Hid (NewS w.heap.size wr none E.cn E.ch) ∧ Room wr w4.heap.size (E.sn * 2) ∧ w4.heap.size < wr.heap.size ∧ ∀ j, j < k → wr.cell? ⟨w4.heap.size, j * 2, none⟩ = some (.string (E.slo j)) ∧ wr.cell? ⟨w4.heap.size, j * 2 + 1, none⟩ = some (.string (E.shi j))) (fun i _ => E.sn - (intOf i).toNat)
      case atStart =>
        refine ⟨0, Nat.zero_le _, rfl, (s4.set34 _ _).next' ((Below.refl _ _).alloc (Nat.le_refl _) _), Or.inl HC0.out, ?_, by simp, all_zero⟩
        have := Room.made ((w4.setCell ⟨w.heap.size + 2, 3, none⟩ (.string E.plo)).setCell ⟨w.heap.size + 2, 4, none⟩ (.string E.phi)) z2 (E.sn * 2) 37
        simpa using this
      case round =>
        clear b5 b6 c0 c1 c2 c3 c4 c5 c6 fr fr' v0 r0 v1 r1 v2 r2 v3 r3 v4 r4 v5 r5 v6 r6
        clear s4
        obtain ⟨k, hk, rfl, sr2, HNS2, hroom2, hgl2, hcl2⟩ := hrel
        by_cases hkn2 : k < E.sn
        · rcases (H.out.below sr2.bel).2.2.2 with hz | ⟨b, o, ha, hb, hc⟩
          · omega
          injection ha with ha
          subst ha
          obtain ⟨f1, f2⟩ := hc k hkn2
          clear hc
          obtain ⟨_, _, _, _, _, _, b6⟩ := sr2.box
          simp only [Nat.zero_add] at b6
          have HCL := hidm hcl2
          clear hcl2
          go_wp2_with fail
          refine (toSlice _ _ _).mono ?_
          rintro e w8 ⟨rfl, hb8⟩
          have hroom8 := hroom2.below hb8 (by omega)
          have hgl8 : w4.heap.size < w8.heap.size := Nat.lt_of_lt_of_le hgl2 hb8.size
          obtain ⟨v, hv⟩ := hroom8.get (i := k * 2) (by omega)
          obtain ⟨v', hv'⟩ := hroom8.get (i := k * 2 + 1) (by omega)
          have hfr : ∀ i, w8.frozen? ⟨w4.heap.size, i, none⟩ = false := hroom8.2
          have HB8 := hidm hb8
          clear hb8 f1 f2 b6
          go_wp2
          go_roundw
          case rel =>
            refine ⟨k + 1, by omega, by go_num, (sr2.next' HB8.out).next (((Below.refl _ _).setCell (by show _ ≤ w4.heap.size; omega) _).setCell (by show _ ≤ w4.heap.size; omega) _), ?_, (hroom8.set _ _).set _ _, by simpa using hgl8, ?_⟩
            · exact ((HNS2.out.next HB8.out).only one_set (by rintro b h; cases h)).only one_set (by rintro b h; cases h)
            · refine all_succ (fun j hj => ⟨?_, ?_⟩) ⟨?_, ?_⟩
              · exact (set_out (by omega)).trans ((set_out (by omega)).trans ((HB8.out.cell (by exact hgl2)).trans (HCL.out j hj).1))
              · exact (set_out (by omega)).trans ((set_out (by omega)).trans ((HB8.out.cell (by exact hgl2)).trans (HCL.out j hj).2))
              · exact (set_out (by omega)).trans (set_in hv)
              · exact set_in ((set_out (by omega)).trans hv')
          case measure => simp [intOf]; omega
        · have hke : k = E.sn := by omega
          subst hke
          obtain ⟨_, _, _, _, _, b5, b6⟩ := sr2.box
          obtain ⟨c0, c1, c2, c3, c4, c5, c6⟩ := sr2.e
          simp only [Nat.zero_add] at b5 b6 c0 c1 c2 c3 c4 c5 c6
          have fr : ∀ i, wr.frozen? ⟨w.heap.size + 2, i, none⟩ = false := sr2.u
          have fr' : ∀ i, wr.frozen? ⟨w.heap.size + 1, i, none⟩ = false := sr2.r.2
          obtain ⟨v0, r0⟩ := sr2.r.get (i := 0) (by omega)
          obtain ⟨v1, r1⟩ := sr2.r.get (i := 1) (by omega)
          obtain ⟨v2, r2⟩ := sr2.r.get (i := 2) (by omega)
          obtain ⟨v3, r3⟩ := sr2.r.get (i := 3) (by omega)
          obtain ⟨v4, r4⟩ := sr2.r.get (i := 4) (by omega)
          obtain ⟨v5, r5⟩ := sr2.r.get (i := 5) (by omega)
          obtain ⟨v6, r6⟩ := sr2.r.get (i := 6) (by omega)
          have HNP : Hid (NewP w.heap.size wr (some ⟨w4.heap.size, 0, none⟩) E.sn E.slo E.shi) := Or.inr ⟨_, rfl, by omega, hgl2, hcl2⟩
          clear hcl2
          go_wp2_with fail
          refine bodyPost_ret (v := .agg #[.string E.peer, .string E.lo, .string E.hi, .string E.plo, .string E.phi, .slice none 0 0, .slice (some ⟨w4.heap.size, 0, none⟩) E.sn E.sn]) ?_ rfl ?_
          · simp [results, Try.results22, go_sem, r0, r1, r2, r3, r4, r5, r6]
          · refine ⟨none, (some ⟨w4.heap.size, 0, none⟩), 0, E.sn, by rw [HC0.out], ?_, H.out.1, H.out.2.1, ?_, ?_⟩
            · exact (by repeat (first | refine Below.setCell ?_ (by dsimp only; omega) _ | exact sr2.bel))
            · exact (by repeat (first | refine NewS.only (B := w.heap.size) ?_ one_set (by rintro b h; cases h) | exact HNS2.out))
            · exact (by repeat (first | refine NewP.only (B := w.heap.size) ?_ one_set (by rintro b h; have := (Option.some.inj h); injection this with h1; omega) | exact HNP.out))
  | some ad1 =>
    cases sa with
    | none =>
      go_enter Try.func22, Try.ntmps22
      go_wp2_with fail
      refine (toSlice _ _ _).mono ?_
      rintro e w2 ⟨rfl, hb2⟩
      have s2 := (St.start _ _ _ _ _ _ _ _ _ _ _ _ _ _ _ _ _ _ _).next' hb2
      clear hb2
      obtain ⟨_, _, _, b3, b4, _, _⟩ := s2.box
      obtain ⟨_, c1, c2, _, _, _, _⟩ := s2.e
      simp only [Nat.zero_add] at b3 b4 c1 c2
      have fr : ∀ i, w2.frozen? ⟨w.heap.size + 2, i, none⟩ = false := s2.u
      go_wp2_with fail
      refine (toSlice _ _ _).mono ?_
      rintro e w4 ⟨rfl, hb4⟩
      have s4 := (s2.set12 _ _).next' hb4
      clear hb4 s2 b3 b4 c1 c2 fr
      obtain ⟨_, _, _, _, _, b5, b6⟩ := s4.box
      obtain ⟨c0, c1, c2, c3, c4, c5, c6⟩ := s4.e
      simp only [Nat.zero_add] at b5 b6 c0 c1 c2 c3 c4 c5 c6
      have fr : ∀ i, w4.frozen? ⟨w.heap.size + 2, i, none⟩ = false := s4.u
      have fr' : ∀ i, w4.frozen? ⟨w.heap.size + 1, i, none⟩ = false := s4.r.2
      obtain ⟨v0, r0⟩ := s4.r.get (i := 0) (by omega)
      obtain ⟨v1, r1⟩ := s4.r.get (i := 1) (by omega)
      obtain ⟨v2, r2⟩ := s4.r.get (i := 2) (by omega)
      obtain ⟨v3, r3⟩ := s4.r.get (i := 3) (by omega)
      obtain ⟨v4, r4⟩ := s4.r.get (i := 4) (by omega)
      obtain ⟨v5, r5⟩ := s4.r.get (i := 5) (by omega)
      obtain ⟨v6, r6⟩ := s4.r.get (i := 6) (by omega)
      go_wp2_with fail
      have hg3 := s4.size
      go_loopw [5] (fun i wr => ∃ k : Nat, k ≤ E.cn ∧ i = .int .i64 k ∧ St w E (some ad1) none cc sc (.string E.lo) (.string E.hi) (.string E.plo) (.string E.phi) (.slice none 0 0) (.slice none 0 0) wr ∧ Room wr w4.heap.size E.cn ∧ w4.heap.size < wr.heap.size ∧ ∀ j, j < k → wr.cell? ⟨w4.heap.size, j, none⟩ = some (.string (E.ch j))) (fun i _ => E.cn - (intOf i).toNat)
      case atStart =>
        refine ⟨0, Nat.zero_le _, rfl, (s4.set34 _ _).next' ((Below.refl _ _).alloc (Nat.le_refl _) _), ?_, by simp, all_zero⟩
        have := Room.made ((w4.setCell ⟨w.heap.size + 2, 3, none⟩ (.string E.plo)).setCell ⟨w.heap.size + 2, 4, none⟩ (.string E.phi)) z1 E.cn 38
        simpa using this
      case round =>
        clear b5 b6 c0 c1 c2 c3 c4 c5 c6 fr fr' v0 r0 v1 r1 v2 r2 v3 r3 v4 r4 v5 r5 v6 r6
        clear s4
        obtain ⟨k, hk, rfl, sr, hroom, hgl, hcl⟩ := hrel
        by_cases hkn : k < E.cn
        · rcases (H.out.below sr.bel).2.2.1 with hz | ⟨b, o, ha, hb, hc⟩
          · omega
          injection ha with ha
          subst ha
          have f1 := hc k hkn
          clear hc
          obtain ⟨_, _, _, _, _, b5, _⟩ := sr.box
          simp only [Nat.zero_add] at b5
          obtain ⟨v, hv⟩ := hroom.get hkn
          have hfr : ∀ i, wr.frozen? ⟨w4.heap.size, i, none⟩ = false := hroom.2
          have HCL := hidm hcl
          clear hcl
          go_wp2
          go_roundw
          case rel =>
            refine ⟨k + 1, by omega, by go_num, sr.next ((Below.refl _ _).setCell (by show _ ≤ w4.heap.size; omega) _), hroom.set _ _, by simpa using hgl, ?_⟩
            exact all_succ (fun j hj => (set_out (by omega)).trans (HCL.out j hj)) (set_in hv)
          case measure => simp [intOf]; omega
        · have hke : k = E.cn := by omega
          subst hke
          obtain ⟨_, _, _, _, _, b5, b6⟩ := sr.box
          obtain ⟨c0, c1, c2, c3, c4, c5, c6⟩ := sr.e
          simp only [Nat.zero_add] at b5 b6 c0 c1 c2 c3 c4 c5 c6
          have fr : ∀ i, wr.frozen? ⟨w.heap.size + 2, i, none⟩ = false := sr.u
          have fr' : ∀ i, wr.frozen? ⟨w.heap.size + 1, i, none⟩ = false := sr.r.2
          obtain ⟨v0, r0⟩ := sr.r.get (i := 0) (by omega)
          obtain ⟨v1, r1⟩ := sr.r.get (i := 1) (by omega)
          obtain ⟨v2, r2⟩ := sr.r.get (i := 2) (by omega)
          obtain ⟨v3, r3⟩ := sr.r.get (i := 3) (by omega)
          obtain ⟨v4, r4⟩ := sr.r.get (i := 4) (by omega)
          obtain ⟨v5, r5⟩ := sr.r.get (i := 5) (by omega)
          obtain ⟨v6, r6⟩ := sr.r.get (i := 6) (by omega)
          have HNS : Hid (NewS w.heap.size wr (some ⟨w4.heap.size, 0, none⟩) E.cn E.ch) := Or.inr ⟨_, rfl, by omega, hgl, hcl⟩
          clear hcl
          go_wp2_with fail
          have hs0 : E.sn = 0 := by
            rcases H.out.2.2.2 with h | ⟨_, _, h, _⟩
            · exact h
            · cases h
          refine bodyPost_ret (v := .agg #[.string E.peer, .string E.lo, .string E.hi, .string E.plo, .string E.phi, .slice (some ⟨w4.heap.size, 0, none⟩) E.cn E.cn, .slice none 0 0]) ?_ rfl ?_
          · simp [results, Try.results22, go_sem, r0, r1, r2, r3, r4, r5, r6]
          · refine ⟨(some ⟨w4.heap.size, 0, none⟩), none, E.cn, 0, by rw [hs0], ?_, H.out.1, H.out.2.1, ?_, ?_⟩
            · exact (by repeat (first | refine Below.setCell ?_ (by dsimp only; omega) _ | exact sr.bel))
            · exact (by repeat (first | refine NewS.only (B := w.heap.size) ?_ one_set (by rintro b h; have := (Option.some.inj h); injection this with h1; omega) | exact HNS.out))
            · exact Or.inl hs0
    | some ad2 =>
      go_enter Try.func22, Try.ntmps22
      go_wp2_with fail
      refine (toSlice _ _ _).mono ?_
      rintro e w2 ⟨rfl, hb2⟩
      have s2 := (St.start _ _ _ _ _ _ _ _ _ _ _ _ _ _ _ _ _ _ _).next' hb2
      clear hb2
      obtain ⟨_, _, _, b3, b4, _, _⟩ := s2.box
      obtain ⟨_, c1, c2, _, _, _, _⟩ := s2.e
      simp only [Nat.zero_add] at b3 b4 c1 c2
      have fr : ∀ i, w2.frozen? ⟨w.heap.size + 2, i, none⟩ = false := s2.u
      go_wp2_with fail
      refine (toSlice _ _ _).mono ?_
      rintro e w4 ⟨rfl, hb4⟩
      have s4 := (s2.set12 _ _).next' hb4
      clear hb4 s2 b3 b4 c1 c2 fr
      obtain ⟨_, _, _, _, _, b5, b6⟩ := s4.box
      obtain ⟨c0, c1, c2, c3, c4, c5, c6⟩ := s4.e
      simp only [Nat.zero_add] at b5 b6 c0 c1 c2 c3 c4 c5 c6
      have fr : ∀ i, w4.frozen? ⟨w.heap.size + 2, i, none⟩ = false := s4.u
      have fr' : ∀ i, w4.frozen? ⟨w.heap.size + 1, i, none⟩ = false := s4.r.2
      obtain ⟨v0, r0⟩ := s4.r.get (i := 0) (by omega)
      obtain ⟨v1, r1⟩ := s4.r.get (i := 1) (by omega)
      obtain ⟨v2, r2⟩ := s4.r.get (i := 2) (by omega)
      obtain ⟨v3, r3⟩ := s4.r.get (i := 3) (by omega)
      obtain ⟨v4, r4⟩ := s4.r.get (i := 4) (by omega)
      obtain ⟨v5, r5⟩ := s4.r.get (i := 5) (by omega)
      obtain ⟨v6, r6⟩ := s4.r.get (i := 6) (by omega)
      go_wp2_with fail
      have hg3 := s4.size
      go_loopw [5] (fun i wr => ∃ k : Nat, k ≤ E.cn ∧ i = .int .i64 k ∧ St w E (some ad1) (some ad2) cc sc (.string E.lo) (.string E.hi) (.string E.plo) (.string E.phi) (.slice none 0 0) (.slice none 0 0) wr ∧ Room wr w4.heap.size E.cn ∧ w4.heap.size < wr.heap.size ∧ ∀ j, j < k → wr.cell? ⟨w4.heap.size, j, none⟩ = some (.string (E.ch j))) (fun i _ => E.cn - (intOf i).toNat)
      case atStart =>
        refine ⟨0, Nat.zero_le _, rfl, (s4.set34 _ _).next' ((Below.refl _ _).alloc (Nat.le_refl _) _), ?_, by simp, all_zero⟩
        have := Room.made ((w4.setCell ⟨w.heap.size + 2, 3, none⟩ (.string E.plo)).setCell ⟨w.heap.size + 2, 4, none⟩ (.string E.phi)) z1 E.cn 38
        simpa using this
      case round =>
        clear b5 b6 c0 c1 c2 c3 c4 c5 c6 fr fr' v0 r0 v1 r1 v2 r2 v3 r3 v4 r4 v5 r5 v6 r6
        clear s4
        obtain ⟨k, hk, rfl, sr, hroom, hgl, hcl⟩ := hrel
        by_cases hkn : k < E.cn
        · rcases (H.out.below sr.bel).2.2.1 with hz | ⟨b, o, ha, hb, hc⟩
          · omega
          injection ha with ha
          subst ha
          have f1 := hc k hkn
          clear hc
          obtain ⟨_, _, _, _, _, b5, _⟩ := sr.box
          simp only [Nat.zero_add] at b5
          obtain ⟨v, hv⟩ := hroom.get hkn
          have hfr : ∀ i, wr.frozen? ⟨w4.heap.size, i, none⟩ = false := hroom.2
          have HCL := hidm hcl
          clear hcl
          go_wp2
          go_roundw
          case rel =>
            refine ⟨k + 1, by omega, by go_num, sr.next ((Below.refl _ _).setCell (by show _ ≤ w4.heap.size; omega) _), hroom.set _ _, by simpa using hgl, ?_⟩
            exact all_succ (fun j hj => (set_out (by omega)).trans (HCL.out j hj)) (set_in hv)
          case measure => simp [intOf]; omega
        · have hke : k = E.cn := by omega
          subst hke
          obtain ⟨_, _, _, _, _, b5, b6⟩ := sr.box
          obtain ⟨c0, c1, c2, c3, c4, c5, c6⟩ := sr.e
          simp only [Nat.zero_add] at b5 b6 c0 c1 c2 c3 c4 c5 c6
          have fr : ∀ i, wr.frozen? ⟨w.heap.size + 2, i, none⟩ = false := sr.u
          have fr' : ∀ i, wr.frozen? ⟨w.heap.size + 1, i, none⟩ = false := sr.r.2
          obtain ⟨v0, r0⟩ := sr.r.get (i := 0) (by omega)
          obtain ⟨v1, r1⟩ := sr.r.get (i := 1) (by omega)
          obtain ⟨v2, r2⟩ := sr.r.get (i := 2) (by omega)
          obtain ⟨v3, r3⟩ := sr.r.get (i := 3) (by omega)
          obtain ⟨v4, r4⟩ := sr.r.get (i := 4) (by omega)
          obtain ⟨v5, r5⟩ := sr.r.get (i := 5) (by omega)
          obtain ⟨v6, r6⟩ := sr.r.get (i := 6) (by omega)
          have HNS : Hid (NewS w.heap.size wr (some ⟨w4.heap.size, 0, none⟩) E.cn E.ch) := Or.inr ⟨_, rfl, by omega, hgl, hcl⟩
          clear hcl
          go_wp2_with fail
          have hg4 := sr.size
          rename World => wr4
          go_loopw [7] (fun i wr => ∃ k : Nat, k ≤ E.sn ∧ i = .int .i64 k ∧ St w E (some ad1) (some ad2) cc sc (.string E.lo) (.string E.hi) (.string E.plo) (.string E.phi) (.slice (some ⟨w4.heap.size, 0, none⟩) E.cn E.cn) (.slice none 0 0) wr ∧ Hid (NewS w.heap.size wr (some ⟨w4.heap.size, 0, none⟩) E.cn E.ch) ∧ Room wr wr4.heap.size (E.sn * 2) ∧ wr4.heap.size < wr.heap.size ∧ ∀ j, j < k → wr.cell? ⟨wr4.heap.size, j * 2, none⟩ = some (.string (E.slo j)) ∧ wr.cell? ⟨wr4.heap.size, j * 2 + 1, none⟩ = some (.string (E.shi j))) (fun i _ => E.sn - (intOf i).toNat)
          case atStart =>
            refine ⟨0, Nat.zero_le _, rfl, (sr.set5 _).next' ((Below.refl _ _).alloc (Nat.le_refl _) _), NewS.next (HNS.out.only one_set (by rintro b h; have := (Option.some.inj h); injection this with h1; omega)) ((Below.refl _ _).alloc (Nat.le_refl _) _), ?_, by simp, all_zero⟩
            have := Room.made (wr4.setCell ⟨w.heap.size + 2, 5, none⟩ (.slice (some ⟨w4.heap.size, 0, none⟩) E.cn E.cn)) z2 (E.sn * 2) 37
            simpa using this
          case round =>
            clear b5 b6 c0 c1 c2 c3 c4 c5 c6 fr fr' v0 r0 v1 r1 v2 r2 v3 r3 v4 r4 v5 r5 v6 r6
            clear sr
            obtain ⟨k, hk, rfl, sr2, HNS2, hroom2, hgl2, hcl2⟩ := hrel
            by_cases hkn2 : k < E.sn
            · rcases (H.out.below sr2.bel).2.2.2 with hz | ⟨b, o, ha, hb, hc⟩
              · omega
              injection ha with ha
              subst ha
              obtain ⟨f1, f2⟩ := hc k hkn2
              clear hc
              obtain ⟨_, _, _, _, _, _, b6⟩ := sr2.box
              simp only [Nat.zero_add] at b6
              have HCL := hidm hcl2
              clear hcl2
              go_wp2_with fail
              refine (toSlice _ _ _).mono ?_
              rintro e w8 ⟨rfl, hb8⟩
              have hroom8 := hroom2.below hb8 (by omega)
              have hgl8 : wr4.heap.size < w8.heap.size := Nat.lt_of_lt_of_le hgl2 hb8.size
              obtain ⟨v, hv⟩ := hroom8.get (i := k * 2) (by omega)
              obtain ⟨v', hv'⟩ := hroom8.get (i := k * 2 + 1) (by omega)
              have hfr : ∀ i, w8.frozen? ⟨wr4.heap.size, i, none⟩ = false := hroom8.2
              have HB8 := hidm hb8
              clear hb8 f1 f2 b6
              go_wp2
              go_roundw
              case rel =>
                refine ⟨k + 1, by omega, by go_num, (sr2.next' HB8.out).next (((Below.refl _ _).setCell (by show _ ≤ wr4.heap.size; omega) _).setCell (by show _ ≤ wr4.heap.size; omega) _), ?_, (hroom8.set _ _).set _ _, by simpa using hgl8, ?_⟩
                · exact ((HNS2.out.next HB8.out).only one_set (by rintro b h; have := (Option.some.inj h); injection this with h1; omega)).only one_set (by rintro b h; have := (Option.some.inj h); injection this with h1; omega)
                · refine all_succ (fun j hj => ⟨?_, ?_⟩) ⟨?_, ?_⟩
                  · exact (set_out (by omega)).trans ((set_out (by omega)).trans ((HB8.out.cell (by exact hgl2)).trans (HCL.out j hj).1))
                  · exact (set_out (by omega)).trans ((set_out (by omega)).trans ((HB8.out.cell (by exact hgl2)).trans (HCL.out j hj).2))
                  · exact (set_out (by omega)).trans (set_in hv)
                  · exact set_in ((set_out (by omega)).trans hv')
              case measure => simp [intOf]; omega
            · have hke : k = E.sn := by omega
              subst hke
              obtain ⟨_, _, _, _, _, b5, b6⟩ := sr2.box
              obtain ⟨c0, c1, c2, c3, c4, c5, c6⟩ := sr2.e
              simp only [Nat.zero_add] at b5 b6 c0 c1 c2 c3 c4 c5 c6
              have fr : ∀ i, wr.frozen? ⟨w.heap.size + 2, i, none⟩ = false := sr2.u
              have fr' : ∀ i, wr.frozen? ⟨w.heap.size + 1, i, none⟩ = false := sr2.r.2
              obtain ⟨v0, r0⟩ := sr2.r.get (i := 0) (by omega)
              obtain ⟨v1, r1⟩ := sr2.r.get (i := 1) (by omega)
              obtain ⟨v2, r2⟩ := sr2.r.get (i := 2) (by omega)
              obtain ⟨v3, r3⟩ := sr2.r.get (i := 3) (by omega)
              obtain ⟨v4, r4⟩ := sr2.r.get (i := 4) (by omega)
              obtain ⟨v5, r5⟩ := sr2.r.get (i := 5) (by omega)
              obtain ⟨v6, r6⟩ := sr2.r.get (i := 6) (by omega)
              have HNP : Hid (NewP w.heap.size wr (some ⟨wr4.heap.size, 0, none⟩) E.sn E.slo E.shi) := Or.inr ⟨_, rfl, by omega, hgl2, hcl2⟩
              clear hcl2
              go_wp2_with fail
              refine bodyPost_ret (v := .agg #[.string E.peer, .string E.lo, .string E.hi, .string E.plo, .string E.phi, .slice (some ⟨w4.heap.size, 0, none⟩) E.cn E.cn, .slice (some ⟨wr4.heap.size, 0, none⟩) E.sn E.sn]) ?_ rfl ?_
              · simp [results, Try.results22, go_sem, r0, r1, r2, r3, r4, r5, r6]
              · refine ⟨(some ⟨w4.heap.size, 0, none⟩), (some ⟨wr4.heap.size, 0, none⟩), E.cn, E.sn, rfl, ?_, H.out.1, H.out.2.1, ?_, ?_⟩
                · exact (by repeat (first | refine Below.setCell ?_ (by dsimp only; omega) _ | exact sr2.bel))
                · exact (by repeat (first | refine NewS.only (B := w.heap.size) ?_ one_set (by rintro b h; have := (Option.some.inj h); injection this with h1; omega) | exact HNS2.out))
                · exact (by repeat (first | refine NewP.only (B := w.heap.size) ?_ one_set (by rintro b h; have := (Option.some.inj h); injection this with h1; omega) | exact HNP.out))
end Go.Proofs.Qxb6623423a.Seat
