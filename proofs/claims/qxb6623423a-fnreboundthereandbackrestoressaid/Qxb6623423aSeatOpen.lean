/- Seat b6623423a: a place among the arguments, opened. -/
import Derived.Test.Qxb6623423aSeatData
import Derived.ProofKit
import Derived.OpenShut
import Derived.Deep.Strs
namespace Go.Proofs.Qxb6623423a.Seat
open Go.ChangeShapes Go.WideShapes Go.ChangeAt Go.RowKit

instance : Inhabited Ent := ⟨⟨default, default, default, default, default, true, 0, default, true, 0, default, default⟩⟩
instance : Inhabited RowE := ⟨⟨true, 0, default⟩⟩
instance : Inhabited TabE := ⟨⟨true, 0, default⟩⟩
instance : Inhabited Sub := ⟨⟨default, default, default⟩⟩
instance : Inhabited RowU := ⟨⟨true, 0, default⟩⟩
instance : Inhabited TabU := ⟨⟨true, 0, default⟩⟩
instance : Inhabited Slt := ⟨⟨default, default, default, 0, 0⟩⟩

theorem co3 : Try.prog.cellsOf 3 = 1 := by kernel_rfl
theorem co9 : Try.prog.cellsOf 9 = 1 := by kernel_rfl
theorem co23 : Try.prog.cellsOf 23 = 2 := by kernel_rfl
theorem co25 : Try.prog.cellsOf 25 = 2 := by kernel_rfl
theorem co26 : Try.prog.cellsOf 26 = 1 := by kernel_rfl
theorem co27 : Try.prog.cellsOf 27 = 2 := by kernel_rfl
theorem co28 : Try.prog.cellsOf 28 = 1 := by kernel_rfl
theorem co29 : Try.prog.cellsOf 29 = 2 := by kernel_rfl
theorem co30 : Try.prog.cellsOf 30 = 1 := by kernel_rfl
theorem co31 : Try.prog.cellsOf 31 = 2 := by kernel_rfl
theorem co33 : Try.prog.cellsOf 33 = 15 := by kernel_rfl
theorem co54 : Try.prog.cellsOf 54 = 5 := by kernel_rfl
theorem co55 : Try.prog.cellsOf 55 = 1 := by kernel_rfl
theorem co56 : Try.prog.cellsOf 56 = 1 := by kernel_rfl
theorem co57 : Try.prog.cellsOf 57 = 1 := by kernel_rfl
theorem co59 : Try.prog.cellsOf 59 = 7 := by kernel_rfl
theorem co60 : Try.prog.cellsOf 60 = 1 := by kernel_rfl
theorem co62 : Try.prog.cellsOf 62 = 3 := by kernel_rfl

/-- These cells read as a datum of the type t. -/
def Tr {H : Type} (enc : TypeId × Value → H) (W : World) (t : TypeId) (cs : List Value) : Prop := ∃ fuel x, DataW.trod enc Try.prog W 0 (fun _ => true) true fuel t cs = some x

section
variable {H : Type} {enc : TypeId × Value → H} {W : World} {t e : TypeId} {cs : List Value}

theorem tr_str (h : Tr enc W 9 cs) : ∃ s, cs = [.string s] := by
  obtain ⟨_, _, h⟩ := h
  obtain ⟨s, h1, _⟩ := DataW.trod_string Try.underlying9 h
  exact ⟨s, h1⟩
theorem tr_int (h : Tr enc W 3 cs) : ∃ z, cs = [.int .i64 z] := by
  obtain ⟨_, _, h⟩ := h
  obtain ⟨z, h1, _⟩ := DataW.trod_int Try.underlying3 h
  exact ⟨z, h1⟩
theorem tr_len {fs : Array Field} (ht : Try.prog.underlying t = some (.struct fs)) (h : Tr enc W t cs) : cs.length = Try.prog.cellsOf t := by
  obtain ⟨_, _, h⟩ := h
  obtain ⟨_, _, _, _, hl, _⟩ := DataW.trod_struct ht h
  exact hl
theorem tr_field {fs : Array Field} (ht : Try.prog.underlying t = some (.struct fs)) (h : Tr enc W t cs) (i : Nat) (f : Field) (hf : fs[i]? = some f) : Tr enc W f.type ((cs.drop f.offset).take (Try.prog.cellsOf f.type)) := by
  obtain ⟨_, _, h⟩ := h
  obtain ⟨xs, n, _, _, _, hxl, hx⟩ := DataW.trod_struct ht h
  have hi : i < fs.size := by
    rcases Nat.lt_or_ge i fs.size with h | h
    · exact h
    · rw [Array.getElem?_eq_none h] at hf
      cases hf
  have := hx i f hf
  rw [List.getElem?_eq_getElem (by omega)] at this
  exact ⟨_, _, this⟩
theorem tr_elem {n : Nat} (ht : Try.prog.underlying t = some (.array n e)) (h : Tr enc W t cs) (i : Nat) (hi : i < n) : Tr enc W e ((cs.drop (i * Try.prog.cellsOf e)).take (Try.prog.cellsOf e)) := by
  obtain ⟨_, _, h⟩ := h
  obtain ⟨xs, n, _, _, _, hxl, hx⟩ := DataW.trod_array ht h
  have := hx i hi
  rw [List.getElem?_eq_getElem (by omega)] at this
  exact ⟨_, _, this⟩

/-- A slice: its header; its elements' cells, each of which reads as a datum. -/
theorem tr_slice {k : Nat} (ht : Try.prog.underlying t = some (.slice e)) (hc : Try.prog.cellsOf e = k) (hk : 0 < k) (h : Tr enc W t cs) :
    ∃ a n c, cs = [.slice a n c] ∧ (n = 0 ∨ ∃ b o, a = some ⟨b, o, none⟩ ∧ b < W.heap.size ∧ ∀ i, i < n → ∃ cs', cs'.length = k ∧ (∀ j, j < k → W.cell? ⟨b, o + i * k + j, none⟩ = cs'[j]?) ∧ Tr enc W e cs') := by
  obtain ⟨_, _, h⟩ := h
  rcases Go.Deep.open_slice ht h with ⟨hcs, _⟩ | ⟨a, len, cap, m, n, D, Pl, hcs, _, hl, _, hm, _, hx⟩
  · exact ⟨_, _, _, hcs, Or.inl rfl⟩
  have hm' : m = cap := by simpa using hm
  refine ⟨_, _, _, hcs, ?_⟩
  by_cases hz : len = 0
  · exact Or.inl hz
  have one : ∀ i, i < len → ∃ cs' : List Value, cs'.length = k ∧ (∀ j, j < k → W.cell? ((a.add (i * k)).add j) = cs'[j]?) ∧ Tr enc W e cs' := by
    intro i hi
    obtain ⟨cs', h1, h2⟩ := hx i (by omega)
    rw [hc] at h1
    obtain ⟨_, h3, h4⟩ := World.cells?_some h1
    exact ⟨cs', h3, h4, _, _, h2⟩
  obtain ⟨cs0, h1, h2, _⟩ := one 0 (by omega)
  have hc0 := h2 0 hk
  rw [List.getElem?_eq_getElem (by omega)] at hc0
  obtain ⟨b, o, spot⟩ := a
  have hspot : spot = none := by simpa [Addr.add] using World.cell?_spot hc0
  subst hspot
  refine Or.inr ⟨b, o, rfl, ?_, fun i hi => ?_⟩
  · have := World.block_lt_of_cell? _ _ hc0
    simpa [Addr.add] using this
  · obtain ⟨cs', g1, g2, g3⟩ := one i hi
    refine ⟨cs', g1, fun j hj => ?_, g3⟩
    have := g2 j hj
    rwa [add_plain, add_plain] at this

theorem tr_pair (h : Tr enc W 25 cs) : ∃ lo hi, cs = [.string lo, .string hi] := by
  have hl := tr_len Try.underlying25 h
  rw [co25] at hl
  match cs, hl with
  | [x0, x1], _ =>
    have g0 := tr_field Try.underlying25 h 0 _ rfl
    have g1 := tr_field Try.underlying25 h 1 _ rfl
    simp [co9] at g0 g1
    obtain ⟨s0, e0⟩ := tr_str g0
    obtain ⟨s1, e1⟩ := tr_str g1
    simp at e0 e1
    subst e0; subst e1
    exact ⟨_, _, rfl⟩

theorem tr_strs (h : Tr enc W 56 cs) : ∃ a n c f, cs = [.slice a n c] ∧ StrRow W a n f := by
  obtain ⟨a, n, c, hcs, h⟩ := tr_slice Try.underlying56 co9 (by decide) h
  rcases h with h | ⟨b, o, ha, hb, h⟩
  · exact ⟨a, n, c, default, hcs, Or.inl h⟩
  obtain ⟨f, hf⟩ := Go.Deep.choose_lt (α := ByteArray) (p := fun i s => W.cell? ⟨b, o + i, none⟩ = some (.string s)) (n := n) (fun i hi => by
    obtain ⟨cs', _, h2, h3⟩ := h i hi
    obtain ⟨s, rfl⟩ := tr_str h3
    have := h2 0 (by decide)
    exact ⟨s, by simpa using this⟩)
  exact ⟨a, n, c, f, hcs, Or.inr ⟨b, o, ha, hb, hf⟩⟩

theorem tr_pairs (h : Tr enc W 57 cs) : ∃ a n c f g, cs = [.slice a n c] ∧ PairRow W a n f g := by
  obtain ⟨a, n, c, hcs, h⟩ := tr_slice Try.underlying57 co25 (by decide) h
  rcases h with h | ⟨b, o, ha, hb, h⟩
  · exact ⟨a, n, c, default, default, hcs, Or.inl h⟩
  obtain ⟨f, hf⟩ := Go.Deep.choose_lt (α := ByteArray × ByteArray) (p := fun i s => W.cell? ⟨b, o + i * 2, none⟩ = some (.string s.1) ∧ W.cell? ⟨b, o + i * 2 + 1, none⟩ = some (.string s.2)) (n := n) (fun i hi => by
    obtain ⟨cs', _, h2, h3⟩ := h i hi
    obtain ⟨s, s', rfl⟩ := tr_pair h3
    exact ⟨(s, s'), h2 0 (by decide), h2 1 (by decide)⟩)
  exact ⟨a, n, c, fun i => (f i).1, fun i => (f i).2, hcs, Or.inr ⟨b, o, ha, hb, hf⟩⟩

theorem tr_ent (h : Tr enc W 59 cs) : ∃ E ca sa cc sc, cs = [.string E.peer, .string E.lo, .string E.hi, .string E.plo, .string E.phi, .slice ca E.cn cc, .slice sa E.sn sc] ∧ EntIn W ca sa E := by
  have hl := tr_len Try.underlying59 h
  rw [co59] at hl
  match cs, hl with
  | [x0, x1, x2, x3, x4, x5, x6], _ =>
    have g0 := tr_field Try.underlying59 h 0 _ rfl
    have g1 := tr_field Try.underlying59 h 1 _ rfl
    have g2 := tr_field Try.underlying59 h 2 _ rfl
    have g3 := tr_field Try.underlying59 h 3 _ rfl
    have g4 := tr_field Try.underlying59 h 4 _ rfl
    simp [co9, co25, co56, co57] at g0 g1 g2 g3 g4
    obtain ⟨s0, e0⟩ := tr_str g0
    obtain ⟨s1, s2, e1⟩ := tr_pair g1
    obtain ⟨s3, s4, e3⟩ := tr_pair g2
    obtain ⟨ca, cn, cc, ch, e5, hch⟩ := tr_strs g3
    obtain ⟨sa, sn, sc, slo, shi, e6, hsp⟩ := tr_pairs g4
    simp at e0 e1 e3 e5 e6
    obtain ⟨rfl, rfl⟩ := e1
    obtain ⟨rfl, rfl⟩ := e3
    subst e0; subst e5; subst e6
    exact ⟨⟨s0, s1, s2, s3, s4, ca.isNone, cn, ch, sa.isNone, sn, slo, shi⟩, ca, sa, cc, sc, rfl, rfl, rfl, hch, hsp⟩

theorem tr_row (h : Tr enc W 55 cs) : ∃ a c R, cs = [.slice a R.n c] ∧ RowIn W a R := by
  obtain ⟨a, n, c, hcs, h⟩ := tr_slice Try.underlying55 co59 (by decide) h
  rcases h with h | ⟨b, o, ha, hb, h⟩
  · exact ⟨a, c, ⟨a.isNone, n, default⟩, hcs, rfl, Or.inl h⟩
  obtain ⟨f, hf⟩ := Go.Deep.choose_lt (α := Ent) (p := fun i E => ∃ ca sa cc sc, EntCells W b (o + i * 7) E ca sa cc sc ∧ EntIn W ca sa E) (n := n) (fun i hi => by
    obtain ⟨cs', _, h2, h3⟩ := h i hi
    obtain ⟨E, ca, sa, cc, sc, rfl, hE⟩ := tr_ent h3
    exact ⟨E, ca, sa, cc, sc, ⟨h2 0 (by decide), h2 1 (by decide), h2 2 (by decide), h2 3 (by decide), h2 4 (by decide), h2 5 (by decide), h2 6 (by decide)⟩, hE⟩)
  exact ⟨a, c, ⟨a.isNone, n, f⟩, hcs, rfl, Or.inr ⟨b, o, ha, hb, hf⟩⟩

theorem tr_tab (h : Tr enc W 28 cs) : ∃ a c T, cs = [.slice a T.n c] ∧ TabIn W a T := by
  obtain ⟨a, n, c, hcs, h⟩ := tr_slice Try.underlying28 co55 (by decide) h
  rcases h with h | ⟨b, o, ha, hb, h⟩
  · exact ⟨a, c, ⟨a.isNone, n, default⟩, hcs, rfl, Or.inl h⟩
  obtain ⟨f, hf⟩ := Go.Deep.choose_lt (α := RowE) (p := fun i R => ∃ ra rc, W.cell? ⟨b, o + i, none⟩ = some (.slice ra R.n rc) ∧ RowIn W ra R) (n := n) (fun i hi => by
    obtain ⟨cs', _, h2, h3⟩ := h i hi
    obtain ⟨ra, rc, R, rfl, hR⟩ := tr_row h3
    have := h2 0 (by decide)
    exact ⟨R, ra, rc, by simpa using this, hR⟩)
  exact ⟨a, c, ⟨a.isNone, n, f⟩, hcs, rfl, Or.inr ⟨b, o, ha, hb, hf⟩⟩

theorem tr_sub (h : Tr enc W 62 cs) : ∃ u : Sub, cs = [.string u.peer, .string u.lo, .string u.hi] := by
  have hl := tr_len Try.underlying62 h
  rw [co62] at hl
  match cs, hl with
  | [x0, x1, x2], _ =>
    have g0 := tr_field Try.underlying62 h 0 _ rfl
    have g1 := tr_field Try.underlying62 h 1 _ rfl
    simp [co9, co25] at g0 g1
    obtain ⟨s0, e0⟩ := tr_str g0
    obtain ⟨s1, s2, e1⟩ := tr_pair g1
    simp at e0 e1
    obtain ⟨rfl, rfl⟩ := e1
    subst e0
    exact ⟨⟨s0, s1, s2⟩, rfl⟩

theorem tr_urow (h : Tr enc W 60 cs) : ∃ a c R, cs = [.slice a R.n c] ∧ RowUIn W a R := by
  obtain ⟨a, n, c, hcs, h⟩ := tr_slice Try.underlying60 co62 (by decide) h
  rcases h with h | ⟨b, o, ha, hb, h⟩
  · exact ⟨a, c, ⟨a.isNone, n, default⟩, hcs, rfl, Or.inl h⟩
  obtain ⟨f, hf⟩ := Go.Deep.choose_lt (α := Sub) (p := fun d u => W.cell? ⟨b, o + d * 3, none⟩ = some (.string u.peer) ∧ W.cell? ⟨b, o + d * 3 + 1, none⟩ = some (.string u.lo) ∧ W.cell? ⟨b, o + d * 3 + 2, none⟩ = some (.string u.hi)) (n := n) (fun i hi => by
    obtain ⟨cs', _, h2, h3⟩ := h i hi
    obtain ⟨u, rfl⟩ := tr_sub h3
    exact ⟨u, h2 0 (by decide), h2 1 (by decide), h2 2 (by decide)⟩)
  exact ⟨a, c, ⟨a.isNone, n, f⟩, hcs, rfl, Or.inr ⟨b, o, ha, hb, hf⟩⟩

theorem tr_utab (h : Tr enc W 30 cs) : ∃ a c T, cs = [.slice a T.n c] ∧ TabUIn W a T := by
  obtain ⟨a, n, c, hcs, h⟩ := tr_slice Try.underlying30 co60 (by decide) h
  rcases h with h | ⟨b, o, ha, hb, h⟩
  · exact ⟨a, c, ⟨a.isNone, n, default⟩, hcs, rfl, Or.inl h⟩
  obtain ⟨f, hf⟩ := Go.Deep.choose_lt (α := RowU) (p := fun i R => ∃ ra rc, W.cell? ⟨b, o + i, none⟩ = some (.slice ra R.n rc) ∧ RowUIn W ra R) (n := n) (fun i hi => by
    obtain ⟨cs', _, h2, h3⟩ := h i hi
    obtain ⟨ra, rc, R, rfl, hR⟩ := tr_urow h3
    have := h2 0 (by decide)
    exact ⟨R, ra, rc, by simpa using this, hR⟩)
  exact ⟨a, c, ⟨a.isNone, n, f⟩, hcs, rfl, Or.inr ⟨b, o, ha, hb, hf⟩⟩

theorem tr_slt (h : Tr enc W 54 cs) : ∃ s : Slt, cs = [.string s.child, .string s.lo, .string s.hi, .int .i64 s.vac, .int .i64 s.hgt] := by
  have hl := tr_len Try.underlying54 h
  rw [co54] at hl
  match cs, hl with
  | [x0, x1, x2, x3, x4], _ =>
    have g0 := tr_field Try.underlying54 h 0 _ rfl
    have g1 := tr_field Try.underlying54 h 1 _ rfl
    have g2 := tr_field Try.underlying54 h 2 _ rfl
    have g3 := tr_field Try.underlying54 h 3 _ rfl
    simp [co9, co25, co3] at g0 g1 g2 g3
    obtain ⟨s0, e0⟩ := tr_str g0
    obtain ⟨s1, s2, e1⟩ := tr_pair g1
    obtain ⟨z3, e3⟩ := tr_int g2
    obtain ⟨z4, e4⟩ := tr_int g3
    simp at e0 e1 e3 e4
    obtain ⟨rfl, rfl⟩ := e1
    subst e0; subst e3; subst e4
    exact ⟨⟨s0, s1, s2, z3, z4⟩, rfl⟩

theorem tr_slots (h : Tr enc W 26 cs) : ∃ a n c f, cs = [.slice a n c] ∧ SltRow W a n f := by
  obtain ⟨a, n, c, hcs, h⟩ := tr_slice Try.underlying26 co54 (by decide) h
  rcases h with h | ⟨b, o, ha, hb, h⟩
  · exact ⟨a, n, c, default, hcs, Or.inl h⟩
  obtain ⟨f, hf⟩ := Go.Deep.choose_lt (α := Slt) (p := fun i s => SltCells W b (o + i * 5) s) (n := n) (fun i hi => by
    obtain ⟨cs', _, h2, h3⟩ := h i hi
    obtain ⟨s, rfl⟩ := tr_slt h3
    exact ⟨s, h2 0 (by decide), h2 1 (by decide), h2 2 (by decide), h2 3 (by decide), h2 4 (by decide)⟩)
  exact ⟨a, n, c, f, hcs, Or.inr ⟨b, o, ha, hb, hf⟩⟩

theorem two_of {α : Type} (x y : α) : ∃ f : Nat → α, f 0 = x ∧ f 1 = y := ⟨fun i => if i = 0 then x else y, rfl, rfl⟩

theorem tr_place (h : Tr enc W 33 cs) : ∃ A D, cs = (plC A D).toList ∧ PlIn W A D := by
  have hl := tr_len Try.underlying33 h
  rw [co33] at hl
  match cs, hl with
  | [x0, x1, x2, x3, x4, x5, x6, x7, x8, x9, x10, x11, x12, x13, x14], _ =>
    have g0 := tr_field Try.underlying33 h 0 _ rfl
    have g1 := tr_field Try.underlying33 h 1 _ rfl
    have g2 := tr_field Try.underlying33 h 2 _ rfl
    have g3 := tr_field Try.underlying33 h 3 _ rfl
    have g4 := tr_field Try.underlying33 h 4 _ rfl
    have g5 := tr_field Try.underlying33 h 5 _ rfl
    have g6 := tr_field Try.underlying33 h 6 _ rfl
    have g7 := tr_field Try.underlying33 h 7 _ rfl
    have g8 := tr_field Try.underlying33 h 8 _ rfl
    simp [co3, co23, co25, co9, co26, co27, co29, co31] at g0 g1 g2 g3 g4 g5 g6 g7 g8
    have g10 := tr_field Try.underlying23 g1 0 _ rfl
    have g11 := tr_field Try.underlying23 g1 1 _ rfl
    have g60 := tr_elem Try.underlying27 g6 0 (by decide)
    have g61 := tr_elem Try.underlying27 g6 1 (by decide)
    have g70 := tr_elem Try.underlying29 g7 0 (by decide)
    have g71 := tr_elem Try.underlying29 g7 1 (by decide)
    have g80 := tr_elem Try.underlying31 g8 0 (by decide)
    have g81 := tr_elem Try.underlying31 g8 1 (by decide)
    simp [co3, co9, co28, co30] at g10 g11 g60 g61 g70 g71 g80 g81
    obtain ⟨z0, e0⟩ := tr_int g0
    obtain ⟨z1, e1⟩ := tr_int g10
    obtain ⟨z2, e2⟩ := tr_int g11
    obtain ⟨s3, s4, e3⟩ := tr_pair g2
    obtain ⟨s5, e5⟩ := tr_str g3
    obtain ⟨s6, s7, e6⟩ := tr_pair g4
    obtain ⟨sa, sn, sc, sl, e8, hsl⟩ := tr_slots g5
    obtain ⟨s9, e9⟩ := tr_str g60
    obtain ⟨s10, e10⟩ := tr_str g61
    obtain ⟨t0, c0, T0, e11, hT0⟩ := tr_tab g70
    obtain ⟨t1, c1, T1, e12, hT1⟩ := tr_tab g71
    obtain ⟨u0, k0, U0, e13, hU0⟩ := tr_utab g80
    obtain ⟨u1, k1, U1, e14, hU1⟩ := tr_utab g81
    simp at e0 e1 e2 e3 e5 e6 e8 e9 e10 e11 e12 e13 e14
    obtain ⟨rfl, rfl⟩ := e3
    obtain ⟨rfl, rfl⟩ := e6
    subst e0; subst e1; subst e2; subst e5; subst e8; subst e9; subst e10; subst e11; subst e12; subst e13; subst e14
    obtain ⟨ad, rfl, rfl⟩ := two_of s9 s10
    obtain ⟨ta, rfl, rfl⟩ := two_of t0 t1
    obtain ⟨tc, rfl, rfl⟩ := two_of c0 c1
    obtain ⟨ua, rfl, rfl⟩ := two_of u0 u1
    obtain ⟨uc, rfl, rfl⟩ := two_of k0 k1
    obtain ⟨T, rfl, rfl⟩ := two_of T0 T1
    obtain ⟨U, rfl, rfl⟩ := two_of U0 U1
    exact ⟨⟨sa, sc, ta, tc, ua, uc⟩, ⟨z0, z1, z2, s3, s4, s5, s6, s7, sa.isNone, sn, sl, ad, T, U⟩, rfl, rfl, hsl, two_cases hT0 hT1, two_cases hU0 hU1⟩
end
end Go.Proofs.Qxb6623423a.Seat
