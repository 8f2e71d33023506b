/- Seat b6623423a: ZZRebound. -/
import Derived.Test.Qxb6623423aSeatBack
namespace Go.Proofs.Qxb6623423a.Seat
open Go.RowKit

theorem zz_rebound (K : Nat → Key) (f t : ByteArray) (N : Nat) (A : Adr) (D : Plc) (w : World) (h : Own K w N A D) (hn : ∀ b, w.heap.size ≤ b → K b = .other) (hsn : D.sn ≤ 1048576) (hT : ∀ s, s < 2 → TabOk (D.t s)) (hU : ∀ s, s < 2 → TabUOk (D.u s)) :
    Calls Try.prog 8 #[.pointer (some ⟨N, 0, none⟩), .string f, .string t] w fun e w' => ∃ c n : Bool, e = .returned (.tuple #[.bool c, .bool n]) ∧
      (c = true ↔ ∃ i, i < D.sn ∧ chg f t (D.sl i).lo (D.sl i).hi = true) ∧ (n = true ↔ MB D f t 2 0 0) ∧ Own K w' N A (mvP f t D) ∧ Kp K (· ≠ .other) w w' := by
  have HC := hidm (place_rebound K f t N A D w h hn hsn hT hU)
  clear h hn hsn hT hU
  go_enter Try.func8, Try.ntmps8
  go_wp2_with fail
  refine HC.out.mono ?_
  rintro e w2 ⟨c, n, rfl, h1, h2, h3, h4⟩
  have HX := hidm (And.intro h1 (And.intro h2 (And.intro h3 h4)))
  clear h1 h2 h3 h4
  go_wp2
  go_ret2
  exact ⟨c, n, rfl, HX.out⟩
end Go.Proofs.Qxb6623423a.Seat
