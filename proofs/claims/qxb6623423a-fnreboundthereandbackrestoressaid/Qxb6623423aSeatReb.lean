/- Seat b6623423a: (*Entry).rebound. -/
import Derived.Test.Qxb6623423aSeatClone
import Derived.Test.Qxb6623423aSeatPR
namespace Go.Proofs.Qxb6623423a.Seat
open Go.RowKit

theorem eqS_eq {x y : ByteArray} (h : eqS x y = true) : x = y := by
  have h' : x.toList = y.toList := by simpa [eqS] using h
  rw [ByteArray.toList_eq, ByteArray.toList_eq] at h'
  cases x; cases y
  congr
  exact Array.toList_inj.1 h'
theorem chg_false {f t lo hi : ByteArray} (h : chg f t lo hi = false) : mv f t lo = lo ∧ mv f t hi = hi := by
  simp only [chg, Bool.not_eq_false', Bool.and_eq_true] at h
  exact ⟨eqS_eq h.1, eqS_eq h.2⟩

/-- An entry moved. -/
def mvE (f t : ByteArray) (E : Ent) : Ent := { E with lo := mv f t E.lo, hi := mv f t E.hi, plo := mv f t E.plo, phi := mv f t E.phi, slo := fun c => mv f t (E.slo c), shi := fun c => mv f t (E.shi c) }

/-- The first k are moved. -/
def part (f t : ByteArray) (k : Nat) (x : Nat → ByteArray) : Nat → ByteArray := fun j => if j < k then mv f t (x j) else x j

theorem Only.set_new {g o n q i : Nat} {w w' : World} (h : Only g o n w w') (hg : g < w.heap.size) (hq : w.heap.size ≤ q) (v : Value) : Only g o n w (w'.setCell ⟨q, i, none⟩ v) := by
  refine ⟨h.os, h.tape, h.output, by simpa using h.size, fun b hb hne => (Below.heap_setCell _ _ _ _ (by show b ≠ q; omega)).trans (h.block b hb hne), fun j hj => (set_out (by omega)).trans (h.cell j hj), fun j => (World.frozen?_setCell _ _ _ _).trans (h.frozen j)⟩

theorem part_same {f t : ByteArray} {k : Nat} {x : Nat → ByteArray} (h : mv f t (x k) = x k) : part f t (k + 1) x = part f t k x := by
  funext j
  unfold part
  by_cases e : j = k
  · subst e; rw [if_pos (by omega), if_neg (by omega), h]
  · by_cases e2 : j < k
    · rw [if_pos (by omega), if_pos e2]
    · rw [if_neg (by omega), if_neg e2]
theorem part_at {f t : ByteArray} {k : Nat} {x : Nat → ByteArray} : part f t (k + 1) x k = mv f t (x k) := if_pos (by omega)
theorem part_ne {f t : ByteArray} {k j : Nat} {x : Nat → ByteArray} (h : j ≠ k) : part f t (k + 1) x j = part f t k x j := by
  unfold part
  by_cases e2 : j < k
  · rw [if_pos (by omega), if_pos e2]
  · rw [if_neg (by omega), if_neg e2]
theorem part_zero {f t : ByteArray} {x : Nat → ByteArray} : part f t 0 x = x := by
  funext j
  exact if_neg (by omega)

/-- The entry at (g, o) in hand. -/
structure Er (w : World) (g o : Nat) (x0 x1 x2 x3 x4 x5 x6 : Value) (wr : World) : Prop where
  only : Only g o 7 w wr
  c : Cel7 wr g o x0 x1 x2 x3 x4 x5 x6
  u : Unf wr g
  lt : g < wr.heap.size

section
variable {w : World} {g o : Nat} {x0 x1 x2 x3 x4 x5 x6 : Value} {wr w2 : World}
theorem Er.next (h : Er w g o x0 x1 x2 x3 x4 x5 x6 wr) (hb : Below wr.heap.size wr w2) : Er w g o x0 x1 x2 x3 x4 x5 x6 w2 :=
  ⟨h.only.trans (Only.of hb h.lt), h.c.of (hb.block _ h.lt), fun i => (hb.frozen (by exact h.lt)).trans (h.u i), Nat.lt_of_lt_of_le h.lt hb.size⟩
theorem Er.set12 (h : Er w g o x0 x1 x2 x3 x4 x5 x6 wr) (u v : Value) : Er w g o x0 u v x3 x4 x5 x6 ((wr.setCell ⟨g, o + 1, none⟩ u).setCell ⟨g, o + 2, none⟩ v) := by
  obtain ⟨c0, c1, c2, c3, c4, c5, c6⟩ := h.c
  exact ⟨(h.only.set (by omega) (by omega) _).set (by omega) (by omega) _, ⟨(set_out (by omega)).trans ((set_out (by omega)).trans c0), (set_out (by omega)).trans (set_in c1), set_in ((set_out (by omega)).trans c2), (set_out (by omega)).trans ((set_out (by omega)).trans c3), (set_out (by omega)).trans ((set_out (by omega)).trans c4), (set_out (by omega)).trans ((set_out (by omega)).trans c5), (set_out (by omega)).trans ((set_out (by omega)).trans c6)⟩,
    fun i => ((World.frozen?_setCell _ _ _ _).trans (World.frozen?_setCell _ _ _ _)).trans (h.u i), by simpa using h.lt⟩
theorem Er.set34 (h : Er w g o x0 x1 x2 x3 x4 x5 x6 wr) (u v : Value) : Er w g o x0 x1 x2 u v x5 x6 ((wr.setCell ⟨g, o + 3, none⟩ u).setCell ⟨g, o + 4, none⟩ v) := by
  obtain ⟨c0, c1, c2, c3, c4, c5, c6⟩ := h.c
  exact ⟨(h.only.set (by omega) (by omega) _).set (by omega) (by omega) _, ⟨(set_out (by omega)).trans ((set_out (by omega)).trans c0), (set_out (by omega)).trans ((set_out (by omega)).trans c1), (set_out (by omega)).trans ((set_out (by omega)).trans c2), (set_out (by omega)).trans (set_in c3), set_in ((set_out (by omega)).trans c4), (set_out (by omega)).trans ((set_out (by omega)).trans c5), (set_out (by omega)).trans ((set_out (by omega)).trans c6)⟩,
    fun i => ((World.frozen?_setCell _ _ _ _).trans (World.frozen?_setCell _ _ _ _)).trans (h.u i), by simpa using h.lt⟩
theorem Er.set6 (h : Er w g o x0 x1 x2 x3 x4 x5 x6 wr) (v : Value) : Er w g o x0 x1 x2 x3 x4 x5 v (wr.setCell ⟨g, o + 6, none⟩ v) := by
  obtain ⟨c0, c1, c2, c3, c4, c5, c6⟩ := h.c
  exact ⟨h.only.set (by omega) (by omega) _, ⟨(set_out (by omega)).trans c0, (set_out (by omega)).trans c1, (set_out (by omega)).trans c2, (set_out (by omega)).trans c3, (set_out (by omega)).trans c4, (set_out (by omega)).trans c5, set_in c6⟩,
    fun i => (World.frozen?_setCell _ _ _ _).trans (h.u i), by simpa using h.lt⟩
theorem Er.drew (h : Er w g o x0 x1 x2 x3 x4 x5 x6 wr) : Er w g o x0 x1 x2 x3 x4 x5 x6 wr.drew := ⟨⟨h.only.os, h.only.tape, h.only.output, h.only.size, h.only.block, h.only.cell, h.only.frozen⟩, h.c, h.u, h.lt⟩
/-- A store into another block. -/
theorem Er.set_new {q i : Nat} {v : Value} (h : Er w g o x0 x1 x2 x3 x4 x5 x6 wr) (hg : g < w.heap.size) (hq : w.heap.size ≤ q) : Er w g o x0 x1 x2 x3 x4 x5 x6 (wr.setCell ⟨q, i, none⟩ v) :=
  ⟨h.only.set_new hg hq v, h.c.of (Below.heap_setCell _ _ _ _ (by show g ≠ q; omega)), fun i => (World.frozen?_setCell _ _ _ _).trans (h.u i), by simpa using h.lt⟩
end

set_option maxRecDepth 100000 in
set_option maxHeartbeats 2000000 in
theorem ent_rebound (K : Nat → Key) (f t : ByteArray) (g o : Nat) (E : Ent) (ca sa : Option Addr) (cc sc : Nat) (w : World) (hg : g < w.heap.size) (hK : K g ≠ .other) (hn : ∀ b, w.heap.size ≤ b → K b = .other)
    (hu : Unf w g) (hE : EntCells w g o E ca sa cc sc) (hP : LeafP K w sa E.sn E.slo E.shi) (hsn : E.sn ≤ 1048576) :
    Calls Try.prog 24 #[.pointer (some ⟨g, o, none⟩), .string f, .string t] w fun e w' => e = .returned (.bool (chg f t E.plo E.phi)) ∧ Only g o 7 w w' ∧
      ∃ (sa' : Option Addr) (sc' : Nat), EntCells w' g o (mvE f t E) ca sa' cc sc' ∧ sa'.isNone = sa.isNone ∧ LeafP K w' sa' E.sn (fun c => mv f t (E.slo c)) (fun c => mv f t (E.shi c)) := by
  have er0 : Er w g o (.string E.peer) (.string E.lo) (.string E.hi) (.string E.plo) (.string E.phi) (.slice ca E.cn cc) (.slice sa E.sn sc) w := ⟨Only.refl, hE, hu, hg⟩
  have HP := hidm hP
  have HN := hidm hn
  have HK := hidm hK
  clear hP hE hu hn hK
  obtain ⟨c0, c1, c2, c3, c4, c5, c6⟩ := er0.c
  go_enter Try.func24, Try.ntmps24
  go_wp2_with fail
  refine (moved _ _ _ _ _).mono ?_
  rintro e w2 ⟨rfl, hb2⟩
  have er2 := er0.next hb2
  clear c0 c1 c2 c3 c4 c5 c6 hb2 er0
  obtain ⟨_, c1, c2, c3, c4, _, _⟩ := er2.c
  have fr : ∀ i, w2.frozen? ⟨g, i, none⟩ = false := er2.u
  go_wp2_with fail
  refine (moved _ _ _ _ _).mono ?_
  rintro e w4 ⟨rfl, hb4⟩
  have er4 := (er2.set12 _ _).next hb4
  clear c1 c2 c3 c4 hb4 er2 fr
  obtain ⟨_, _, _, c3, c4, _, c6⟩ := er4.c
  have fr : ∀ i, w4.frozen? ⟨g, i, none⟩ = false := er4.u
  go_wp2_with fail
  go_loopw [43] (fun i wr => ∃ (k : Nat) (sa1 : Option Addr) (sc1 : Nat), k ≤ E.sn ∧ i = .int .i64 k ∧ Er w g o (.string E.peer) (.string (mv f t E.lo)) (.string (mv f t E.hi)) (.string (mv f t E.plo)) (.string (mv f t E.phi)) (.slice ca E.cn cc) (.slice sa1 E.sn sc1) wr ∧
    sa1.isNone = sa.isNone ∧ Hid (LeafP K wr sa1 E.sn (part f t k E.slo) (part f t k E.shi))) (fun i _ => E.sn - (intOf i).toNat)
  case atStart =>
    refine ⟨0, sa, sc, Nat.zero_le _, rfl, er4.set34 _ _, rfl, ?_⟩
    rw [part_zero, part_zero]
    exact HP.out.go (Q := (· = K g)) (er4.set34 _ _).only.kp (fun e => HK.out e.symm) (fun _ _ => rfl)
  case round =>
    clear c3 c4 c6 fr er4
    obtain ⟨k, sa1, sc1, hk, rfl, er, hsa, HL⟩ := hrel
    by_cases hkn : k < E.sn
    · have hws := er.only.size
      rcases HP.out.go (K' := K) (Q := (· = K g)) er.only.kp (fun e => HK.out e.symm) (fun _ _ => rfl) with hz | ⟨b, rfl, hb, hkb, hc⟩
      · omega
      rcases HL.out with hz | ⟨b1, rfl, hb1, hkb1, hc1⟩
      · omega
      obtain ⟨f1, f2⟩ := hc k hkn
      have HC1 := hidm hc1
      have HKB := hidm (And.intro hkb hkb1)
      clear hc hc1 hkb hkb1
      go_wp2_with fail
      refine (moved _ _ _ _ _).mono ?_
      rintro e w5 ⟨rfl, hb5⟩
      have hb6 : Below wr.heap.size wr w5 := ((Below.refl _ _).alloc (Nat.le_refl _) _).trans (hb5.mono (by simp))
      have er5 := er.next hb6
      clear hb5 f1 f2
      obtain ⟨_, _, _, _, _, _, c6⟩ := er5.c
      have hg5 := er5.lt
      have HB6 := hidm hb6
      clear hb6
      cases hch : chg f t (E.slo k) (E.shi k)
      · have HCH := hidm (chg_false hch)
        have hb7 : Below wr.heap.size wr (w5.alloc (.cells #[.string (mv f t (E.slo k)), .string (mv f t (E.shi k))] 37)) := HB6.out.alloc HB6.out.size _
        have HB7 := hidm hb7
        clear hb7
        go_wp2
        go_roundw
        case rel =>
          refine ⟨k + 1, some ⟨b1, 0, none⟩, sc1, by omega, by go_num, er.next HB7.out, rfl, ?_⟩
          rw [part_same HCH.out.1, part_same HCH.out.2]
          exact Or.inr ⟨b1, rfl, Nat.lt_of_lt_of_le hb1 HB7.out.size, HKB.out.2, fun j hj => ⟨(HB7.out.cell (by exact hb1)).trans (HC1.out j hj).1, (HB7.out.cell (by exact hb1)).trans (HC1.out j hj).2⟩⟩
        case measure => simp [intOf]; omega
      · have hb7 : Below wr.heap.size wr (w5.alloc (.cells #[.string (mv f t (E.slo k)), .string (mv f t (E.shi k))] 37)) := HB6.out.alloc HB6.out.size _
        have HB7 := hidm hb7
        clear hb7
        have h5 := HB6.out.size
        go_wp2_with fail
        refine (clone b1 0 E.sn sc1 (part f t k E.slo) (part f t k E.shi) _ (by omega) hsn (Nat.lt_of_lt_of_le hb1 HB7.out.size) (fun j hj => by
          rw [Nat.zero_add]
          exact ⟨(HB7.out.cell (by exact hb1)).trans (HC1.out j hj).1, (HB7.out.cell (by exact hb1)).trans (HC1.out j hj).2⟩)).mono ?_
        rintro e w7 ⟨g', cap, rfl, hg', hlt', hroom, hcells, hb8⟩
        have hM : w5.heap.size < (w5.alloc (.cells #[.string (mv f t (E.slo k)), .string (mv f t (E.shi k))] 37)).heap.size := by simp
        have mm0 : w7.cell? ⟨w5.heap.size, 0, none⟩ = some (.string (mv f t (E.slo k))) := (hb8.cell (by exact hM)).trans (cells_box (heap_alloc_new _ _) 0)
        have mm1 : w7.cell? ⟨w5.heap.size, 1, none⟩ = some (.string (mv f t (E.shi k))) := (hb8.cell (by exact hM)).trans (cells_box (heap_alloc_new _ _) 1)
        have er7 := (er.next HB7.out).next hb8
        have hgg : w5.heap.size + 1 ≤ g' := by simpa using hg'
        clear hb8 hM hg' c6 er5
        obtain ⟨_, _, _, _, _, _, c6⟩ := er7.c
        have fr : ∀ i, w7.frozen? ⟨g, i, none⟩ = false := er7.u
        have fr' : ∀ i, w7.frozen? ⟨g', i, none⟩ = false := hroom.2
        obtain ⟨v0, r0⟩ := hroom.get (i := k * 2) (by omega)
        obtain ⟨v1, r1⟩ := hroom.get (i := k * 2 + 1) (by omega)
        have HCE := hidm hcells
        have hne : ¬ g = g' := by omega
        have hne2 : ¬ g' = g := by omega
        have hne3 : ¬ g = w5.heap.size := by omega
        have hne4 : ¬ g' = w5.heap.size := by omega
        clear hcells hroom
        go_wp2_with fail
        go_region
        go_wp2
        go_roundw
        case rel =>
          refine ⟨k + 1, some ⟨g', 0, none⟩, cap, by omega, by go_num, (((er7.set6 _).set_new hg (by omega)).set_new hg (by omega)).drew, rfl, ?_⟩
          refine Or.inr ⟨g', rfl, by simpa using hlt', HN.out g' (by omega), fun j hj => ?_⟩
          by_cases e : j = k
          · subst e
            rw [part_at, part_at]
            exact ⟨(set_out (by omega)).trans (set_in ((set_out (by omega)).trans r0)), set_in ((set_out (by omega)).trans ((set_out (by omega)).trans r1))⟩
          · rw [part_ne e, part_ne e]
            exact ⟨(set_out (by omega)).trans ((set_out (by omega)).trans ((set_out (by omega)).trans (HCE.out j hj).1)), (set_out (by omega)).trans ((set_out (by omega)).trans ((set_out (by omega)).trans (HCE.out j hj).2))⟩
        case measure => simp [intOf]; omega
    · have hke : k = E.sn := by omega
      subst hke
      go_wp2
      go_ret
      refine ⟨rfl, er.only, sa1, sc1, er.c, hsa, ?_⟩
      rcases HL.out with hz | ⟨b1, h1, hb1, hkb1, hc1⟩
      · exact Or.inl hz
      · refine Or.inr ⟨b1, h1, hb1, hkb1, fun j hj => ?_⟩
        have := hc1 j hj
        simp only [part, if_pos hj] at this
        exact this
end Go.Proofs.Qxb6623423a.Seat
