/- Seat b6623403a: a set of scopes among the arguments, opened. -/
import Derived.Test.Qxb6623403aSeatBytes
import Derived.ProofKit
import Derived.OpenShut
import Derived.Deep.Strs
namespace Go.Proofs.Qxb6623403a.Seat
open Go.ChangeShapes Go.WideShapes Go.ChangeAt Go.RowKit
open Go.Deep (open_strs)

theorem open_scopes {H : Type} {enc : TypeId × Value → H} {W : World} {a0 : Option Addr} {len0 cap0 : Nat} {d : DataW H} {ps : List MemPlace}
    (h0 : DataW.Trod enc Try.prog W 0 (fun _ => true) true 23 (.slice a0 len0 cap0) d ps) :
    ∃ S, len0 ≤ cap0 ∧ cap0 ≤ maxLen ∧ (∀ j, j < len0 → (S j).size ≤ maxLen) ∧ Strs W a0 len0 S := by
  obtain ⟨fuel, hf⟩ := h0
  rcases open_strs Try.underlying23 Try.underlying24 (by kernel_rfl) hf with ⟨hcs, _⟩ | ⟨x, l, c, m, Sx, hcs, _, hl, hm, hmm, _, hx⟩
  · simp [Value.cells] at hcs
    obtain ⟨rfl, rfl, rfl⟩ := hcs
    exact ⟨fun _ => ByteArray.empty, Nat.le_refl _, Nat.zero_le _, fun j hj => absurd hj (Nat.not_lt_zero _), Or.inl rfl⟩
  · simp [Value.cells] at hcs
    obtain ⟨rfl, rfl, rfl⟩ := hcs
    have hlm : len0 ≤ m := by rw [hmm]; simp; exact hl
    refine ⟨Sx, hl, hm, fun j hj => (hx j (by omega)).2, ?_⟩
    by_cases hz : len0 = 0
    · exact Or.inl hz
    · obtain ⟨b, off, spot⟩ := x
      have hc0 := (hx 0 (by omega)).1
      have hspot : spot = none := by simpa [Addr.add] using World.cell?_spot hc0
      subst hspot
      refine Or.inr ⟨b, off, rfl, ?_, fun j hj => ?_⟩
      · have := World.block_lt_of_cell? _ _ hc0
        simpa [Addr.add] using this
      · have := (hx j (by omega)).1
        rwa [add_plain] at this
end Go.Proofs.Qxb6623403a.Seat
