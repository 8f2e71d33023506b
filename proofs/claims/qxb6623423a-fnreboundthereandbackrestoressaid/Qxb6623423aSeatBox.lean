/- Seat b6623423a: a world in which the place lies in its box, and nothing older has turned. -/
import Derived.Test.Qxb6623423aSeatFlags
namespace Go.Proofs.Qxb6623423a.Seat
open Go.RowKit

theorem all_succ {p : Nat → Prop} {k : Nat} (h : ∀ j, j < k → p j) (hk : p k) : ∀ j, j < k + 1 → p j := by
  intro j hj
  by_cases e : j = k
  · subst e; exact hk
  · exact h j (by omega)
theorem all_zero {p : Nat → Prop} : ∀ j, j < 0 → p j := fun _ hj => absurd hj (Nat.not_lt_zero _)

def InB (w : World) (A : Adr) (D : Plc) (wr : World) : Prop := Below (w.heap.size + 1) (w.alloc (.cells (plC A D) 33)) wr

section
variable {w : World} {A : Adr} {D : Plc} {wr w2 : World}

theorem InB.start : InB w A D (w.alloc (.cells (plC A D) 33)) := Below.refl _ _
theorem InB.below (h : InB w A D wr) : Below w.heap.size w wr := ((Below.refl _ _).alloc (Nat.le_refl _) _).trans (Below.mono h (by omega))
theorem InB.box (h : InB w A D wr) : PlBox wr w.heap.size A D := (plBox_of (heap_alloc_new w _)).below h (by omega)
theorem InB.size (h : InB w A D wr) : w.heap.size + 1 ≤ wr.heap.size := by
  have h1 := Below.size h
  have h2 : (w.alloc (.cells (plC A D) 33)).heap.size = w.heap.size + 1 := by simp
  omega
theorem InB.next (h : InB w A D wr) (hb : Below wr.heap.size wr w2) : InB w A D w2 := Below.trans h (hb.mono h.size)
end

/-! ### No record has the bound x. -/
def EntClean (x : ByteArray) (E : Ent) : Prop := tch E.lo E.hi x = false ∧ tch E.plo E.phi x = false ∧ ∀ c, c < E.sn → tch (E.slo c) (E.shi c) x = false
def RowClean (x : ByteArray) (R : RowE) : Prop := ∀ d, d < R.n → EntClean x (R.e d)
def TabClean (x : ByteArray) (T : TabE) : Prop := ∀ i, i < T.n → RowClean x (T.r i)
def RowUClean (x : ByteArray) (R : RowU) : Prop := ∀ d, d < R.n → tch (R.u d).lo (R.u d).hi x = false
def TabUClean (x : ByteArray) (T : TabU) : Prop := ∀ i, i < T.n → RowUClean x (T.r i)
def Clean (x : ByteArray) (D : Plc) : Prop := tch D.plo D.phi x = false ∧ (∀ i, i < D.sn → tch (D.sl i).lo (D.sl i).hi x = false) ∧ ∀ s, s < 2 → TabClean x (D.t s) ∧ TabUClean x (D.u s)
end Go.Proofs.Qxb6623423a.Seat
