/- Seat b6623438a: the law's slices among the arguments, opened. -/
import Derived.Test.Qxb6623438aSeatLaw
import Derived.ProofKit
import Derived.OpenShut
import Derived.Deep.Matrix
namespace Go.Proofs.Qxb6623438a.Seat
open Go.ChangeShapes Go.WideShapes Go.ChangeAt Go.RowKit

/-- Cells at an address, as a row. -/
theorem row_of {W : World} {x : Addr} {n : Nat} {f : Nat → Value} (h : ∀ i, i < n → W.cell? (x.add i) = some (f i)) : Row W (some x) n f := by
  by_cases hz : n = 0
  · exact Or.inl hz
  · obtain ⟨b, off, spot⟩ := x
    have hc0 := h 0 (by omega)
    have hspot : spot = none := by simpa [Addr.add] using World.cell?_spot hc0
    subst hspot
    refine Or.inr ⟨b, off, rfl, ?_, fun j hj => ?_⟩
    · have := World.block_lt_of_cell? _ _ hc0
      simpa [Addr.add] using this
    · have := h j hj
      rwa [add_plain] at this

theorem open_row {k : IntKind} {t e : TypeId} {H : Type} {enc : TypeId × Value → H} {W : World} {a : Option Addr} {len cap : Nat} {d : DataW H} {ps : List MemPlace}
    (ht : Try.prog.underlying t = some (.slice e)) (he : Try.prog.underlying e = some (.int k)) (hc : Try.prog.cellsOf e = 1)
    (h : DataW.Trod enc Try.prog W 0 (fun _ => true) true t (.slice a len cap) d ps) :
    ∃ Z : Nat → Int, len ≤ maxLen ∧ (a = none → len = 0 ∧ cap = 0) ∧ (∀ j, j < len → (Lit.int k (Z j)).wf = true) ∧ Row W a len (fun j => .int k (Z j)) := by
  obtain ⟨fuel, hf⟩ := h
  rcases open_ints ht he hc hf with ⟨hcs, _⟩ | ⟨x, l, c, zs, hcs, _, hl, hm, hz, _, hcell, hwz⟩
  · simp [Value.cells] at hcs
    obtain ⟨rfl, rfl, rfl⟩ := hcs
    exact ⟨fun _ => 0, Nat.zero_le _, fun _ => ⟨rfl, rfl⟩, fun j hj => absurd hj (Nat.not_lt_zero _), Or.inl rfl⟩
  · simp [Value.cells] at hcs
    obtain ⟨rfl, rfl, rfl⟩ := hcs
    have hlz : len ≤ zs.length := by rw [hz]; simp; exact hl
    refine ⟨fun j => zs.getD j 0, by omega, (fun h => by cases h), fun j hj => ?_, row_of (fun i hi => hcell i (by omega))⟩
    have hj' : j < zs.length := by omega
    apply hwz
    simp only [List.getD, List.getElem?_eq_getElem hj', Option.getD_some]
    exact List.getElem_mem hj'

theorem open_words {H : Type} {enc : TypeId × Value → H} {W : World} {a : Option Addr} {len cap : Nat} {d : DataW H} {ps : List MemPlace}
    (h : DataW.Trod enc Try.prog W 0 (fun _ => true) true 23 (.slice a len cap) d ps) :
    ∃ (A : Nat → Option Addr) (L C : Nat → Nat) (Zw : Nat → Nat → Int), len ≤ maxLen ∧ (a = none → len = 0 ∧ cap = 0) ∧ (∀ j, j < len → L j ≤ maxLen) ∧ (∀ j, j < len → A j = none → L j = 0 ∧ C j = 0) ∧
      Row W a len (words A L C) ∧ ∀ j, j < len → Row W (A j) (L j) (u8 (Zw j)) := by
  obtain ⟨fuel, hf⟩ := h
  rcases Go.Deep.open_int_rows Try.underlying23 Try.underlying22 Try.underlying5 (by kernel_rfl) (by kernel_rfl) hf with ⟨hcs, _⟩ | ⟨x, l, c, A, L, C, Z, hcs, _, hl, hm, _, hx⟩
  · simp [Value.cells] at hcs
    obtain ⟨rfl, rfl, rfl⟩ := hcs
    exact ⟨fun _ => none, fun _ => 0, fun _ => 0, fun _ _ => 0, Nat.zero_le _, fun _ => ⟨rfl, rfl⟩, fun j hj => absurd hj (Nat.not_lt_zero _), fun j hj => absurd hj (Nat.not_lt_zero _), Or.inl rfl, fun j hj => absurd hj (Nat.not_lt_zero _)⟩
  · simp [Value.cells] at hcs
    obtain ⟨rfl, rfl, rfl⟩ := hcs
    refine ⟨A, L, C, fun j i => (Z j).getD i 0, by omega, (fun h => by cases h), fun j hj => ?_, fun j hj hn => ?_, row_of (fun i hi => (hx i (by omega)).1), fun j hj => ?_⟩
    · obtain ⟨_, h1, h2, _⟩ := hx j (by omega); omega
    · obtain ⟨_, h1, _, _, _, h2, _⟩ := hx j (by omega)
      have := h2 hn; omega
    · obtain ⟨_, h1, _, _, _, h2, h3⟩ := hx j (by omega)
      cases hA : A j with
      | none => left; have := h2 hA; omega
      | some a' => exact row_of (fun i hi => (h3 a' hA).2 i (by omega))
end Go.Proofs.Qxb6623438a.Seat
