/- Seat b6623423a: a function's text, cut; a block of it, by its number. -/
import Derived.Test.Qxb6623423aSeatBox
namespace Go.Proofs.Qxb6623423a.Seat
open Go.RowKit

/-- A function's text behind its first n statements. -/
def tail : Nat → Code → Code
  | 0, c => c
  | n + 1, .seq _ b => tail n b
  | _ + 1, c => c

/-- The block number n. -/
def findB (n : Nat) : Code → Option Code
  | .block m c => if m = n then some (.block m c) else findB n c
  | .seq a b => match findB n a with
    | some c => some c
    | none => findB n b
  | .cond _ a b => match findB n a with
    | some c => some c
    | none => findB n b
  | .loop c => findB n c
  | .scope c => findB n c
  | _ => none

/-! ### All lengths are small, a level a word. -/
def EntOk (E : Ent) : Prop := E.cn ≤ 1048576 ∧ E.sn ≤ 1048576
def RowOk (R : RowE) : Prop := R.n ≤ 1048576 ∧ ∀ d, d < R.n → EntOk (R.e d)
def TabOk (T : TabE) : Prop := T.n ≤ 1048576 ∧ ∀ i, i < T.n → RowOk (T.r i)
def TabUOk (T : TabU) : Prop := T.n ≤ 1048576 ∧ ∀ i, i < T.n → (T.r i).n ≤ 1048576
theorem small_of {D : Plc} (h0 : D.sn ≤ 1048576) (h1 : ∀ s, s < 2 → TabOk (D.t s)) (h2 : ∀ s, s < 2 → TabUOk (D.u s)) : Small D :=
  ⟨h0, fun s hs => ⟨⟨(h1 s hs).1, fun i hi => ⟨((h1 s hs).2 i hi).1, fun d hd => ((h1 s hs).2 i hi).2 d hd⟩⟩, ⟨(h2 s hs).1, fun i hi => (h2 s hs).2 i hi⟩⟩⟩
end Go.Proofs.Qxb6623423a.Seat
