/- Seat b6623423a: a frame of which a few slots are known; the rules for a text that reads only. -/
import Derived.Test.Qxb6623423aSeatFind
namespace Go.Proofs.Qxb6623423a.Seat
open Go.RowKit

/-! ### What is known of a frame. -/
def look : List (Nat × Value) → Nat → Option Value
  | [], _ => none
  | (j, v) :: l, i => bif Nat.beq j i then some v else look l i

/-- The frame has 762 slots, slot 7 is a number, the slots of L are as L says. -/
structure Frm (L : List (Nat × Value)) (a : Act) : Prop where
  size : a.tmps.size = 762
  dfr : a.defers = []
  zn : ∃ z, a.tmps.getD 7 undef = .int .i64 z
  at_ : ∀ i v, look L i = some v → a.tmps.getD i undef = v

def okd (d : Nat) : Bool := Nat.blt d 762 && !(Nat.beq d 7)

theorem put_same {a : Act} {d : Nat} {v : Value} (h : d < a.tmps.size) : (a.put (some d) v).tmps.getD d undef = v := by
  simp [Act.put, Array.getD_eq_getD_getElem?, h]
theorem put_other {a : Act} {d i : Nat} {v : Value} (h : d ≠ i) : (a.put (some d) v).tmps.getD i undef = a.tmps.getD i undef := by
  simp [Act.put, Array.getD_eq_getD_getElem?, Array.getElem?_setIfInBounds_ne h]
theorem put_size {a : Act} {d : Nat} {v : Value} : (a.put (some d) v).tmps.size = a.tmps.size := by simp [Act.put]
theorem put_dfr {a : Act} {d : Nat} {v : Value} : (a.put (some d) v).defers = a.defers := rfl

theorem look_cons {j i : Nat} {v x : Value} {L : List (Nat × Value)} (h : look ((j, v) :: L) i = some x) : (j = i ∧ v = x) ∨ (j ≠ i ∧ look L i = some x) := by
  unfold look at h
  by_cases e : j = i
  · subst e
    rw [Nat.beq_refl, cond_true] at h
    injection h with h
    exact Or.inl ⟨rfl, h⟩
  · have hb : Nat.beq j i = false := by
      cases hb : Nat.beq j i
      · rfl
      · exact absurd (Nat.eq_of_beq_eq_true hb) e
    rw [hb, cond_false] at h
    exact Or.inr ⟨e, h⟩

theorem okd_lt {d : Nat} (h : okd d = true) : d < 762 ∧ d ≠ 7 := by
  unfold okd at h
  rw [Bool.and_eq_true] at h
  refine ⟨Nat.le_of_ble_eq_true h.1, fun e => ?_⟩
  subst e
  exact absurd h.2 (by decide)

section
variable {L : List (Nat × Value)} {a : Act} {d : Nat} {v : Value}
theorem Frm.put (h : Frm L a) (hd : okd d = true) : Frm ((d, v) :: L) (a.put (some d) v) := by
  obtain ⟨h1, h2⟩ := okd_lt hd
  refine ⟨put_size.trans h.size, put_dfr.trans h.dfr, ?_, fun i x hx => ?_⟩
  · obtain ⟨z, hz⟩ := h.zn
    exact ⟨z, (put_other h2).trans hz⟩
  · rcases look_cons hx with ⟨rfl, rfl⟩ | ⟨e, hl⟩
    · exact put_same (by rw [h.size]; exact h1)
    · exact (put_other e).trans (h.at_ i x hl)
theorem Frm.put7 {z : Int} (h : Frm L a) (hl : look L 7 = none) : Frm L (a.put (some 7) (.int .i64 z)) := by
  refine ⟨put_size.trans h.size, put_dfr.trans h.dfr, ⟨z, put_same (by rw [h.size]; decide)⟩, fun i x hx => ?_⟩
  have e : 7 ≠ i := by
    intro e
    subst e
    rw [hl] at hx
    cases hx
  exact (put_other e).trans (h.at_ i x hx)
end

/-- All that l says L says too. -/
def SubL (l L : List (Nat × Value)) : Prop := ∀ i v, look l i = some v → look L i = some v
theorem SubL.nil {L : List (Nat × Value)} : SubL [] L := fun _ _ h => by cases h
theorem SubL.cons {i : Nat} {v : Value} {l L : List (Nat × Value)} (h : look L i = some v) (hs : SubL l L) : SubL ((i, v) :: l) L := by
  intro j x hx
  rcases look_cons hx with ⟨rfl, rfl⟩ | ⟨_, hl⟩
  · exact h
  · exact hs j x hl
theorem look_hit {i : Nat} {v : Value} {l : List (Nat × Value)} : look ((i, v) :: l) i = some v := by unfold look; rw [Nat.beq_refl, cond_true]
theorem look_miss {i j : Nat} {v : Value} {l : List (Nat × Value)} (h : j ≠ i) : look ((j, v) :: l) i = look l i := by
  show (bif Nat.beq j i then some v else look l i) = look l i
  have hb : Nat.beq j i = false := by
    cases hb : Nat.beq j i
    · rfl
    · exact absurd (Nat.eq_of_beq_eq_true hb) h
  rw [hb, cond_false]
/-- Behind a first row. -/
def SubM (i : Nat) (l L : List (Nat × Value)) : Prop := ∀ j v, j ≠ i → look l j = some v → look L j = some v
theorem SubL.skip {i : Nat} {v : Value} {l L : List (Nat × Value)} (h : SubM i l L) : SubL ((i, v) :: l) ((i, v) :: L) := by
  intro j x hx
  rcases look_cons hx with ⟨rfl, rfl⟩ | ⟨e, hl⟩
  · exact look_hit
  · rw [look_miss e]
    exact h j x (Ne.symm e) hl
theorem SubL.past {i d : Nat} {v : Value} {l L : List (Nat × Value)} (hd : look l d = none) (h : SubM i l L) : SubM i l ((d, v) :: L) := by
  intro j x hj hx
  have e : d ≠ j := by
    intro e
    subst e
    rw [hd] at hx
    cases hx
  rw [look_miss e]
  exact h j x hj hx
theorem SubL.over {i : Nat} {v : Value} {l : List (Nat × Value)} : SubM i l ((i, v) :: l) := by
  intro j x hj hx
  rw [look_miss (Ne.symm hj)]
  exact hx
theorem Frm.sub {l L : List (Nat × Value)} {a : Act} (h : Frm L a) (hs : SubL l L) : Frm l a := ⟨h.size, h.dfr, h.zn, fun i v hv => h.at_ i v (hs i v hv)⟩


/-! ### What each operation does. -/
section
variable {ev : Operand → Value} {d t u : Nat} {ty : TypeId} {pos : String} {aft : Array Edge} {w : World}
theorem r_move {x : Operand} {v : Value} (h : ev x = v) : (execOp ev ⟨some d, .move x, ty, pos, aft, none⟩).run Try.prog w = .ok (.value v) w := by
  simp [go_sem, h]
theorem r_assign {x : Operand} {v : Value} (h : ev x = v) : (execOp ev ⟨some d, .assign x, ty, pos, aft, none⟩).run Try.prog w = .ok (.value v) w := by
  simp [go_sem, h]
theorem r_loadS {b o : Nat} {v : ByteArray} (h : ev (.tmp t) = .pointer (some ⟨b, o, none⟩)) (h2 : w.cell? ⟨b, o, none⟩ = some (.string v)) : (execOp ev ⟨some d, .load 9 (.tmp t), ty, pos, aft, none⟩).run Try.prog w = .ok (.value (.string v)) w := by
  simp [go_sem, h, h2]
theorem r_lenS {v : ByteArray} (h : ev (.tmp t) = .string v) : (execOp ev ⟨some d, .call { callee := .builtin .len, args := #[.tmp t], argTypes := #[9] }, ty, pos, aft, none⟩).run Try.prog w = .ok (.value (.int .i64 v.size)) w := by
  simp [go_sem, h]
theorem r_gtr {x : Int} {y : Operand} (h : ev (.tmp t) = .int .i64 x) (h2 : ev y = .int .i64 1048576) : (execOp ev ⟨some d, .binOp .gtr 3 (.tmp t) y 3, ty, pos, aft, none⟩).run Try.prog w = .ok (.value (.bool (decide (1048576 < x)))) w := by
  simp [go_sem, h, h2]
theorem r_lss {x y : Nat} {o : Operand} (h : ev (.tmp t) = .int .i64 (x : Int)) (h2 : ev o = .int .i64 (y : Int)) : (execOp ev ⟨some d, .binOp .lss 3 (.tmp t) o 3, ty, pos, aft, none⟩).run Try.prog w = .ok (.value (.bool (decide (x < y)))) w := by
  simp [go_sem, h, h2]
theorem r_add {x y : Int} {o : Operand} (h : ev (.tmp t) = .int .i64 x) (h2 : ev o = .int .i64 y) : (execOp ev ⟨some d, .binOp .add 3 (.tmp t) o 3, ty, pos, aft, none⟩).run Try.prog w = .ok (.value (.int .i64 (IntKind.i64.wrap (x + y)))) w := by
  simp [go_sem, h, h2]
theorem r_inc {x : Nat} (hx : x ≤ 1048576) {o : Operand} (h : ev (.tmp t) = .int .i64 (x : Int)) (h2 : ev o = .int .i64 1) : (execOp ev ⟨some d, .binOp .add 3 (.tmp t) o 3, ty, pos, aft, none⟩).run Try.prog w = .ok (.value (.int .i64 ((x + 1 : Nat) : Int))) w := by
  rw [r_add h h2, show IntKind.i64.wrap ((x : Int) + 1) = ((x + 1 : Nat) : Int) by go_bits; omega]
end

/-! ### A list of operations; a text. -/
def Wl (ops : Array Oper) (Q : Exit → Act → World → Prop) (W : World) (L : List (Nat × Value)) (l : List Oper) : Prop := ∀ a, Frm L a → wpList Try.prog ops Q l a W
def Wc (Q : Exit → Act → World → Prop) (W : World) (L : List (Nat × Value)) (c : Code) : Prop := ∀ a, Frm L a → c.wp Try.prog Q a W
def HR (Q : Exit → Act → World → Prop) (W : World) : Prop := ∀ a : Act, a.defers = [] → a.tmps.getD 6 undef = .bool false → Q .ret a W

section
variable {ops : Array Oper} {Q : Exit → Act → World → Prop} {W : World} {L : List (Nat × Value)} {rest : List Oper} {d t u : Nat} {v : Value} {ty : TypeId} {pos : String} {aft : Array Edge}

theorem op_ok {o : Oper} {a : Act} {w' : World} (hg : o.guard = none) (hd : o.dst = some d) (hrun : (execOp a.eval o).run Try.prog W = .ok (.value v) w') (k : wpList Try.prog ops Q rest (a.put (some d) v) w') : wpList Try.prog ops Q (o :: rest) a W :=
  wpList_plain hg (fun K hK => by
    unfold Oper.wp
    rw [hrun]
    show K (a.put o.dst v) w'
    rw [hd]
    exact hK _ _ k)

theorem Frm.ev {a : Act} (h : Frm L a) (hl : look L t = some v) : a.eval (.tmp t) = v := h.at_ t v hl

theorem Wl_move (h : look L t = some v) (hd : okd d = true) (k : Wl ops Q W ((d, v) :: L) rest) : Wl ops Q W L (⟨some d, .move (.tmp t), ty, pos, aft, none⟩ :: rest) := fun _ ha =>
  op_ok (v := v) rfl rfl (r_move (ha.ev h)) (k _ (ha.put hd))
theorem Wl_assign (h : look L t = some v) (hd : okd d = true) (k : Wl ops Q W ((d, v) :: L) rest) : Wl ops Q W L (⟨some d, .assign (.tmp t), ty, pos, aft, none⟩ :: rest) := fun _ ha =>
  op_ok (v := v) rfl rfl (r_assign (ha.ev h)) (k _ (ha.put hd))
theorem Wl_assignc (hd : okd d = true) (k : Wl ops Q W ((d, v) :: L) rest) : Wl ops Q W L (⟨some d, .assign (.const v), ty, pos, aft, none⟩ :: rest) := fun _ ha =>
  op_ok (v := v) rfl rfl (r_assign rfl) (k _ (ha.put hd))
theorem Wl_move7 (hd : okd d = true) (k : ∀ z, Wl ops Q W ((d, .int .i64 z) :: L) rest) : Wl ops Q W L (⟨some d, .move (.tmp 7), ty, pos, aft, none⟩ :: rest) := fun a ha => by
  obtain ⟨z, hz⟩ := ha.zn
  have hz' : a.eval (.tmp 7) = .int .i64 z := hz
  exact op_ok (v := .int .i64 z) rfl rfl (r_move hz') (k z _ (ha.put hd))
theorem Wl_assign7 {z : Int} (h : look L t = some (.int .i64 z)) (hl : look L 7 = none) (k : Wl ops Q W L rest) : Wl ops Q W L (⟨some 7, .assign (.tmp t), ty, pos, aft, none⟩ :: rest) := fun _ ha =>
  op_ok (v := .int .i64 z) rfl rfl (r_assign (ha.ev h)) (k _ (ha.put7 hl))

class FieldAt (ft f : Nat) (off : outParam Nat) : Prop where
  run : ∀ (ev : Operand → Value) (d t : Nat) (ty : TypeId) (pos : String) (aft : Array Edge) (w : World) (b o : Nat), ev (.tmp t) = .pointer (some ⟨b, o, none⟩) →
    (execOp ev ⟨some d, .fieldAddr ft (.tmp t) f, ty, pos, aft, none⟩).run Try.prog w = .ok (.value (.pointer (some ⟨b, o + off, none⟩))) w
theorem Wl_field {ft f off b o : Nat} [hf : FieldAt ft f off] (h : look L t = some (.pointer (some ⟨b, o, none⟩))) (hd : okd d = true) (k : Wl ops Q W ((d, .pointer (some ⟨b, o + off, none⟩)) :: L) rest) :
    Wl ops Q W L (⟨some d, .fieldAddr ft (.tmp t) f, ty, pos, aft, none⟩ :: rest) := fun _ ha =>
  op_ok rfl rfl (hf.run _ _ _ _ _ _ _ _ _ (ha.ev h)) (k _ (ha.put hd))

class IdxA (at_ : Nat) : Prop where
  run : ∀ (ev : Operand → Value) (d t u : Nat) (ty : TypeId) (pos : String) (aft : Array Edge) (w : World) (b o k : Nat), ev (.tmp t) = .pointer (some ⟨b, o, none⟩) → ev (.tmp u) = .int .i64 (k : Int) → k < 2 →
    (execOp ev ⟨some d, .indexAddr at_ (.tmp t) (.tmp u), ty, pos, aft, none⟩).run Try.prog w = .ok (.value (.pointer (some ⟨b, o + k, none⟩))) w
theorem Wl_idxA {at_ b o i : Nat} [hf : IdxA at_] (hk : i < 2) (h : look L t = some (.pointer (some ⟨b, o, none⟩))) (h2 : look L u = some (.int .i64 (i : Int))) (hd : okd d = true) (k : Wl ops Q W ((d, .pointer (some ⟨b, o + i, none⟩)) :: L) rest) :
    Wl ops Q W L (⟨some d, .indexAddr at_ (.tmp t) (.tmp u), ty, pos, aft, none⟩ :: rest) := fun _ ha =>
  op_ok rfl rfl (hf.run _ _ _ _ _ _ _ _ _ _ _ (ha.ev h) (ha.ev h2) hk) (k _ (ha.put hd))

class IdxS (at_ : Nat) (sz : outParam Nat) : Prop where
  run : ∀ (ev : Operand → Value) (d t u : Nat) (ty : TypeId) (pos : String) (aft : Array Edge) (w : World) (b o k n c : Nat), ev (.tmp t) = .slice (some ⟨b, o, none⟩) n c → ev (.tmp u) = .int .i64 (k : Int) → k < n →
    (execOp ev ⟨some d, .indexAddr at_ (.tmp t) (.tmp u), ty, pos, aft, none⟩).run Try.prog w = .ok (.value (.pointer (some ⟨b, o + k * sz, none⟩))) w
theorem Wl_idxS {at_ sz b o i n c : Nat} {sa : Option Addr} [hf : IdxS at_ sz] (hk : i < n) (hsa : sa = some ⟨b, o, none⟩) (h : look L t = some (.slice sa n c)) (h2 : look L u = some (.int .i64 (i : Int))) (hd : okd d = true)
    (k : Wl ops Q W ((d, .pointer (some ⟨b, o + i * sz, none⟩)) :: L) rest) : Wl ops Q W L (⟨some d, .indexAddr at_ (.tmp t) (.tmp u), ty, pos, aft, none⟩ :: rest) := fun a ha => by
  subst hsa
  exact op_ok rfl rfl (hf.run _ _ _ _ _ _ _ _ _ _ _ _ _ (ha.ev h) (ha.ev h2) hk) (k _ (ha.put hd))
theorem Wl_idx1 {at_ b o i n c : Nat} {sa : Option Addr} [hf : IdxS at_ 1] (hk : i < n) (hsa : sa = some ⟨b, o, none⟩) (h : look L t = some (.slice sa n c)) (h2 : look L u = some (.int .i64 (i : Int))) (hd : okd d = true)
    (k : Wl ops Q W ((d, .pointer (some ⟨b, o + i, none⟩)) :: L) rest) : Wl ops Q W L (⟨some d, .indexAddr at_ (.tmp t) (.tmp u), ty, pos, aft, none⟩ :: rest) :=
  Wl_idxS hk hsa h h2 hd (by rw [Nat.mul_one]; exact k)

class LoadL (lt : Nat) : Prop where
  run : ∀ (ev : Operand → Value) (d t : Nat) (ty : TypeId) (pos : String) (aft : Array Edge) (w : World) (b o n c : Nat) (sa : Option Addr), ev (.tmp t) = .pointer (some ⟨b, o, none⟩) → w.cell? ⟨b, o, none⟩ = some (.slice sa n c) →
    (execOp ev ⟨some d, .load lt (.tmp t), ty, pos, aft, none⟩).run Try.prog w = .ok (.value (.slice sa n c)) w
theorem Wl_loadL {lt b o n c : Nat} {sa : Option Addr} [hf : LoadL lt] (hc : W.cell? ⟨b, o, none⟩ = some (.slice sa n c)) (h : look L t = some (.pointer (some ⟨b, o, none⟩))) (hd : okd d = true) (k : Wl ops Q W ((d, .slice sa n c) :: L) rest) :
    Wl ops Q W L (⟨some d, .load lt (.tmp t), ty, pos, aft, none⟩ :: rest) := fun _ ha =>
  op_ok rfl rfl (hf.run _ _ _ _ _ _ _ _ _ _ _ _ (ha.ev h) hc) (k _ (ha.put hd))
theorem Wl_loadS {b o : Nat} {s : ByteArray} (hc : W.cell? ⟨b, o, none⟩ = some (.string s)) (h : look L t = some (.pointer (some ⟨b, o, none⟩))) (hd : okd d = true) (k : Wl ops Q W ((d, .string s) :: L) rest) :
    Wl ops Q W L (⟨some d, .load 9 (.tmp t), ty, pos, aft, none⟩ :: rest) := fun _ ha =>
  op_ok (v := .string s) rfl rfl (r_loadS (ha.ev h) hc) (k _ (ha.put hd))

theorem Wl_lenS {s : ByteArray} (h : look L t = some (.string s)) (hd : okd d = true) (k : Wl ops Q W ((d, .int .i64 s.size) :: L) rest) :
    Wl ops Q W L (⟨some d, .call { callee := .builtin .len, args := #[.tmp t], argTypes := #[9] }, ty, pos, aft, none⟩ :: rest) := fun _ ha =>
  op_ok (v := .int .i64 s.size) rfl rfl (r_lenS (ha.ev h)) (k _ (ha.put hd))
class LenL (lt : Nat) : Prop where
  run : ∀ (ev : Operand → Value) (d t : Nat) (ty : TypeId) (pos : String) (aft : Array Edge) (w : World) (n c : Nat) (sa : Option Addr), ev (.tmp t) = .slice sa n c →
    (execOp ev ⟨some d, .call { callee := .builtin .len, args := #[.tmp t], argTypes := #[lt] }, ty, pos, aft, none⟩).run Try.prog w = .ok (.value (.int .i64 (n : Int))) w
theorem Wl_lenL {lt n c : Nat} {sa : Option Addr} [hf : LenL lt] (h : look L t = some (.slice sa n c)) (hd : okd d = true) (k : Wl ops Q W ((d, .int .i64 (n : Int)) :: L) rest) :
    Wl ops Q W L (⟨some d, .call { callee := .builtin .len, args := #[.tmp t], argTypes := #[lt] }, ty, pos, aft, none⟩ :: rest) := fun _ ha =>
  op_ok rfl rfl (hf.run _ _ _ _ _ _ _ _ _ _ (ha.ev h)) (k _ (ha.put hd))

theorem Wl_gtr {x : Int} (h : look L t = some (.int .i64 x)) (hd : okd d = true) (k : Wl ops Q W ((d, .bool (decide (1048576 < x))) :: L) rest) :
    Wl ops Q W L (⟨some d, .binOp .gtr 3 (.tmp t) (.const (.int .i64 1048576)) 3, ty, pos, aft, none⟩ :: rest) := fun _ ha =>
  op_ok (v := .bool (decide (1048576 < x))) rfl rfl (r_gtr (ha.ev h) rfl) (k _ (ha.put hd))
theorem Wl_lss {x y : Nat} (h : look L t = some (.int .i64 (x : Int))) (h2 : look L u = some (.int .i64 (y : Int))) (hd : okd d = true) (k : Wl ops Q W ((d, .bool (decide (x < y))) :: L) rest) :
    Wl ops Q W L (⟨some d, .binOp .lss 3 (.tmp t) (.tmp u) 3, ty, pos, aft, none⟩ :: rest) := fun _ ha =>
  op_ok (v := .bool (decide (x < y))) rfl rfl (r_lss (ha.ev h) (ha.ev h2)) (k _ (ha.put hd))
theorem Wl_lss2 {x : Nat} (h : look L t = some (.int .i64 (x : Int))) (hd : okd d = true) (k : Wl ops Q W ((d, .bool (decide (x < 2))) :: L) rest) :
    Wl ops Q W L (⟨some d, .binOp .lss 3 (.tmp t) (.const (.int .i64 2)) 3, ty, pos, aft, none⟩ :: rest) := fun _ ha =>
  op_ok (v := .bool (decide (x < 2))) rfl rfl (r_lss (ha.ev h) rfl) (k _ (ha.put hd))
theorem Wl_add {x y : Int} (h : look L t = some (.int .i64 x)) (h2 : look L u = some (.int .i64 y)) (hd : okd d = true) (k : ∀ z, Wl ops Q W ((d, .int .i64 z) :: L) rest) :
    Wl ops Q W L (⟨some d, .binOp .add 3 (.tmp t) (.tmp u) 3, ty, pos, aft, none⟩ :: rest) := fun _ ha =>
  op_ok (v := .int .i64 (IntKind.i64.wrap (x + y))) rfl rfl (r_add (ha.ev h) (ha.ev h2)) (k _ _ (ha.put hd))
theorem Wl_inc {x : Nat} (hx : x ≤ 1048576) (h : look L t = some (.int .i64 (x : Int))) (hd : okd d = true) (k : Wl ops Q W ((d, .int .i64 ((x + 1 : Nat) : Int)) :: L) rest) :
    Wl ops Q W L (⟨some d, .binOp .add 3 (.tmp t) (.const (.int .i64 1)) 3, ty, pos, aft, none⟩ :: rest) := fun _ ha =>
  op_ok (v := .int .i64 ((x + 1 : Nat) : Int)) rfl rfl (r_inc hx (ha.ev h) rfl) (k _ (ha.put hd))
end

/-! ### The text's forms. -/
section
variable {Q : Exit → Act → World → Prop} {W : World} {L l L0 : List (Nat × Value)} {x y : Code} {id id1 id2 nb m t s n d1 d2 : Nat} {ops : Array Oper} {ol l1 : List Oper} {p : Prop} [Decidable p] {ty ty1 ty2 : TypeId} {pos pos1 pos2 : String} {aft aft1 aft2 : Array Edge}

theorem Wl_nil (h : ∀ a, Frm L a → Q .normal a W) : Wl ops Q W L [] := h
theorem Wl_end (h : Wc Q W L y) : Wl ops (Exit.then (y.wp Try.prog Q) Q) W L [] := h
theorem Wc_rs (h : Wl ol.toArray (Exit.then (y.wp Try.prog Q) Q) W L ol) : Wc Q W L (.seq (.region id ol.toArray false) y) := fun a ha => wp_seq (wp_region_lit (h a ha))
theorem Wc_r (h : Wl ol.toArray Q W L ol) : Wc Q W L (.region id ol.toArray false) := fun a ha => wp_region_lit (h a ha)
theorem Wc_seq (h : Wc (Exit.then (y.wp Try.prog Q) Q) W L x) : Wc Q W L (.seq x y) := fun a ha => wp_seq (h a ha)
theorem Wc_sub (hs : SubL l L) (h : Wc Q W l x) : Wc Q W L x := fun a ha => h a (ha.sub hs)
theorem Wc.nrm (h : Wc Q W L y) : ∀ a, Frm L a → (Exit.then (y.wp Try.prog Q) Q) .normal a W := h
theorem HR.then (h : HR Q W) {K : Act → World → Prop} : HR (Exit.then K Q) W := h
theorem HR.blk (h : HR Q W) : HR (Exit.inBlock id Q) W := h

theorem Wc_retf (hr : HR Q W) : Wc Q W L (.seq (.region id #[⟨some 6, .assign (.const (.bool false)), ty, pos, aft, none⟩] false) .ret) :=
  Wc_rs (Wl_assignc (by decide) (Wl_end (fun a ha => wp_ret (hr a ha.dfr (ha.at_ 6 _ rfl)))))

/-- A test ahead of 'return false'. -/
theorem Wc_guard (hr : HR Q W) (h : look L t = some (.bool (decide p))) (k : ¬ p → ∀ a, Frm L a → Q .normal a W) :
    Wc Q W L (.cond (.tmp t) (.seq (.region id #[⟨some 6, .assign (.const (.bool false)), ty, pos, aft, none⟩] false) .ret) .skip) := fun a ha => by
  refine wp_cond_split (ha.ev h) (fun _ => Wc_retf hr a ha) (fun hp => wp_skip (k (by simpa using hp) a ha))
theorem Wc_guard_m (hr : HR Q W) (h : look L t = some (.bool (decide p))) (k : ¬ p → Wc Q W L y) :
    Wc (Exit.then (y.wp Try.prog Q) Q) W L (.cond (.tmp t) (.seq (.region id #[⟨some 6, .assign (.const (.bool false)), ty, pos, aft, none⟩] false) .ret) .skip) :=
  Wc_guard hr.then h k

def slotN (a : Act) (s : Nat) : Nat := match a.tmps.getD s undef with
  | .int _ z => z.toNat
  | _ => 0
theorem slotN_of {a : Act} {k : Nat} (h : Frm ((s, .int .i64 (k : Int)) :: L) a) : slotN a s = k := by
  have e : a.tmps.getD s undef = .int .i64 (k : Int) := h.at_ s _ (by unfold look; rw [Nat.beq_refl, cond_true])
  unfold slotN
  rw [e]
  rfl

theorem Wc_loop (I : Nat → Prop) (n s : Nat) (L : List (Nat × Value)) (hs : SubL ((s, .int .i64 ((0 : Nat) : Int)) :: L) L0) (h0 : I 0)
    (round : ∀ k, k ≤ n → I k → Wc (Exit.then (fun a w => w = W ∧ k < n ∧ I (k + 1) ∧ Frm ((s, .int .i64 ((k + 1 : Nat) : Int)) :: L) a) Q) W ((s, .int .i64 (k : Int)) :: L) x) : Wc Q W L0 (.loop x) := fun a ha => by
  refine wp_loop (fun a w => w = W ∧ ∃ k, k ≤ n ∧ I k ∧ Frm ((s, .int .i64 ((k : Nat) : Int)) :: L) a) (fun a _ => n - slotN a s) ⟨rfl, 0, Nat.zero_le _, h0, ha.sub hs⟩ ?_
  rintro a1 w1 ⟨rfl, k, hk, hI, hSt⟩
  refine wp_mono (round k hk hI a1 hSt) ?_
  intro e a2 w2 h
  cases e with
  | normal =>
    obtain ⟨hw, hlt, hI2, hSt2⟩ := h
    refine ⟨⟨hw, k + 1, hlt, hI2, hSt2⟩, ?_⟩
    show n - slotN a2 s < n - slotN a1 s
    rw [slotN_of hSt2, slotN_of hSt]
    omega
  | exit id => exact h
  | goto l => exact h
  | ret => exact h
  | panic c => exact h
  | outgrown => exact h

/-- A loop over 0 .. n - 1: the test's operations, the body, the step. -/
theorem Wc_for (I : Nat → Prop) (n s : Nat) (L : List (Nat × Value)) (hs : SubL ((s, .int .i64 ((0 : Nat) : Int)) :: L) L0) (h0 : I 0) (hn : n ≤ 1048576) (ho1 : okd d1 = true) (ho2 : okd d2 = true) (hos : okd s = true) (hd1 : look L d1 = none) (hd2 : look L d2 = none)
    (htest : ∀ (k : Nat) (ops : Array Oper) (Q' : Exit → Act → World → Prop), k ≤ n → (∀ L', SubL ((s, .int .i64 (k : Int)) :: L) L' → look L' t = some (.bool (decide (k < n))) → ∀ a, Frm L' a → Q' .normal a W) → Wl ops Q' W ((s, .int .i64 (k : Int)) :: L) l1)
    (hbody : ∀ (k : Nat) (Q' : Exit → Act → World → Prop), k < n → I k → HR Q' W → (I (k + 1) → ∀ a, Frm ((s, .int .i64 (k : Int)) :: L) a → Q' .normal a W) → Wc Q' W ((s, .int .i64 (k : Int)) :: L) x)
    (hr : HR Q W) (hq : I n → ∀ a, Frm ((s, .int .i64 (n : Int)) :: L) a → Q .normal a W) :
    Wc Q W L0 (.block nb (.loop (.seq (.seq (.region id1 l1.toArray false) (.cond (.tmp t) .skip (.exit nb))) (.seq (.block m x) (.region id2 #[⟨some d1, .move (.tmp s), ty, pos, aft, none⟩,
      ⟨some d2, .binOp .add 3 (.tmp d1) (.const (.int .i64 1)) 3, ty1, pos1, aft1, none⟩, ⟨some s, .assign (.tmp d2), ty2, pos2, aft2, none⟩] false))))) := by
  intro a ha
  refine wp_block (Wc_loop I n s L hs h0 ?_ a ha)
  intro k hk hI
  refine Wc_seq (Wc_rs (htest k _ _ hk ?_))
  intro L' hsub hlk
  refine Wc.nrm ?_
  intro a' ha'
  refine wp_cond_split (ha'.ev hlk) (fun h => wp_skip ?_) (fun h => wp_exit ?_)
  · have hkn : k < n := by simpa using h
    refine wp_seq (wp_block (hbody k _ hkn hI hr.blk.then.then.blk ?_ a' (ha'.sub hsub)))
    intro hI2
    show Wc _ W _ _
    refine Wc_r (Wl_move (v := .int .i64 (k : Int)) ?_ ho1 (Wl_inc (x := k) (by omega) ?_ ho2 (Wl_assign (v := .int .i64 ((k + 1 : Nat) : Int)) ?_ hos (Wl_nil ?_))))
    · unfold look; rw [Nat.beq_refl, cond_true]
    · unfold look; rw [Nat.beq_refl, cond_true]
    · unfold look; rw [Nat.beq_refl, cond_true]
    · intro a2 ha2
      exact ⟨rfl, hkn, hI2, ha2.sub (SubL.skip (SubL.past hd2 (SubL.past hd1 SubL.over)))⟩
  · have hkn : k = n := by
      have : ¬ k < n := by simpa using h
      omega
    subst hkn
    show if nb = nb then Q .normal a' W else Q (.exit nb) a' W
    rw [if_pos rfl]
    exact hq hI a' (ha'.sub hsub)
end

/-! ### This program's types. -/
instance : FieldAt 25 0 0 := ⟨by intro ev d t ty pos aft w b o h; simp [go_sem, h]⟩
instance : FieldAt 25 1 1 := ⟨by intro ev d t ty pos aft w b o h; simp [go_sem, h]⟩
instance : FieldAt 33 2 3 := ⟨by intro ev d t ty pos aft w b o h; simp [go_sem, h]⟩
instance : FieldAt 33 3 5 := ⟨by intro ev d t ty pos aft w b o h; simp [go_sem, h]⟩
instance : FieldAt 33 4 6 := ⟨by intro ev d t ty pos aft w b o h; simp [go_sem, h]⟩
instance : FieldAt 33 5 8 := ⟨by intro ev d t ty pos aft w b o h; simp [go_sem, h]⟩
instance : FieldAt 33 6 9 := ⟨by intro ev d t ty pos aft w b o h; simp [go_sem, h]⟩
instance : FieldAt 33 7 11 := ⟨by intro ev d t ty pos aft w b o h; simp [go_sem, h]⟩
instance : FieldAt 33 8 13 := ⟨by intro ev d t ty pos aft w b o h; simp [go_sem, h]⟩
instance : FieldAt 54 0 0 := ⟨by intro ev d t ty pos aft w b o h; simp [go_sem, h]⟩
instance : FieldAt 54 1 1 := ⟨by intro ev d t ty pos aft w b o h; simp [go_sem, h]⟩
instance : FieldAt 59 0 0 := ⟨by intro ev d t ty pos aft w b o h; simp [go_sem, h]⟩
instance : FieldAt 59 1 1 := ⟨by intro ev d t ty pos aft w b o h; simp [go_sem, h]⟩
instance : FieldAt 59 2 3 := ⟨by intro ev d t ty pos aft w b o h; simp [go_sem, h]⟩
instance : FieldAt 59 3 5 := ⟨by intro ev d t ty pos aft w b o h; simp [go_sem, h]⟩
instance : FieldAt 59 4 6 := ⟨by intro ev d t ty pos aft w b o h; simp [go_sem, h]⟩
instance : FieldAt 62 0 0 := ⟨by intro ev d t ty pos aft w b o h; simp [go_sem, h]⟩
instance : FieldAt 62 1 1 := ⟨by intro ev d t ty pos aft w b o h; simp [go_sem, h]⟩
instance : IdxA 27 := ⟨by intro ev d t u ty pos aft w b o k h h2 hk; simp [go_sem, h, h2]; intro hn; omega⟩
instance : IdxA 29 := ⟨by intro ev d t u ty pos aft w b o k h h2 hk; simp [go_sem, h, h2]; intro hn; omega⟩
instance : IdxA 31 := ⟨by intro ev d t u ty pos aft w b o k h h2 hk; simp [go_sem, h, h2]; intro hn; omega⟩
instance : IdxS 26 5 := ⟨by intro ev d t u ty pos aft w b o k n c h h2 hk; simp [go_sem, h, h2]; intro hn; omega⟩
instance : IdxS 28 1 := ⟨by intro ev d t u ty pos aft w b o k n c h h2 hk; simp [go_sem, h, h2]; intro hn; omega⟩
instance : IdxS 30 1 := ⟨by intro ev d t u ty pos aft w b o k n c h h2 hk; simp [go_sem, h, h2]; intro hn; omega⟩
instance : IdxS 55 7 := ⟨by intro ev d t u ty pos aft w b o k n c h h2 hk; simp [go_sem, h, h2]; intro hn; omega⟩
instance : IdxS 56 1 := ⟨by intro ev d t u ty pos aft w b o k n c h h2 hk; simp [go_sem, h, h2]; intro hn; omega⟩
instance : IdxS 57 2 := ⟨by intro ev d t u ty pos aft w b o k n c h h2 hk; simp [go_sem, h, h2]; intro hn; omega⟩
instance : IdxS 60 3 := ⟨by intro ev d t u ty pos aft w b o k n c h h2 hk; simp [go_sem, h, h2]; intro hn; omega⟩
instance : LoadL 26 := ⟨by intro ev d t ty pos aft w b o n c sa h h2; simp [go_sem, h, h2]⟩
instance : LoadL 28 := ⟨by intro ev d t ty pos aft w b o n c sa h h2; simp [go_sem, h, h2]⟩
instance : LoadL 30 := ⟨by intro ev d t ty pos aft w b o n c sa h h2; simp [go_sem, h, h2]⟩
instance : LoadL 55 := ⟨by intro ev d t ty pos aft w b o n c sa h h2; simp [go_sem, h, h2]⟩
instance : LoadL 56 := ⟨by intro ev d t ty pos aft w b o n c sa h h2; simp [go_sem, h, h2]⟩
instance : LoadL 57 := ⟨by intro ev d t ty pos aft w b o n c sa h h2; simp [go_sem, h, h2]⟩
instance : LoadL 60 := ⟨by intro ev d t ty pos aft w b o n c sa h h2; simp [go_sem, h, h2]⟩
instance : LenL 26 := ⟨by intro ev d t ty pos aft w n c sa h; simp [go_sem, h]⟩
instance : LenL 28 := ⟨by intro ev d t ty pos aft w n c sa h; simp [go_sem, h]⟩
instance : LenL 30 := ⟨by intro ev d t ty pos aft w n c sa h; simp [go_sem, h]⟩
instance : LenL 55 := ⟨by intro ev d t ty pos aft w n c sa h; simp [go_sem, h]⟩
instance : LenL 56 := ⟨by intro ev d t ty pos aft w n c sa h; simp [go_sem, h]⟩
instance : LenL 57 := ⟨by intro ev d t ty pos aft w n c sa h; simp [go_sem, h]⟩
instance : LenL 60 := ⟨by intro ev d t ty pos aft w n c sa h; simp [go_sem, h]⟩
end Go.Proofs.Qxb6623423a.Seat
