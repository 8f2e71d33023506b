/-
  No cell of these rows narrows 'for every input' (looked for: loops, veiled, ifaces, maps, wideKeys, modest, calm, conditions, laid).
  DERIVED. THE GIVEN ROWS OF THIS SEAT. 1 by the template 'for every input the law returns true; each argument reads behind the call as it read before'; 0 by the template 'total and deterministic' (their statements: Qxb6623438aTotals.lean).
  GIVEN WITH THE SEED: the statements are not yours to turn. If you find one false, say at which input.
  Laid BY PROGRAM, IN A SANDBOX (cutbox-rows.mjs): the forced cells as the released guide's own fill.sh prints them over the translation 3b68391ca2b5c8f0… (all of the seat's roots in one cut). By AI agents, Wed Nov 11 2026. No macro, syntax, notation, axiom, sorry.
-/
import Derived.Test.Qxb6623438aChecked
import GoSem.Claim
import GoSem.ClaimJoined
import GoSem.ClaimMapViews
import Derived.JoinedTies
import Derived.KernelRfl
namespace Go.Proofs.Qxb6623438a
/- THE CELL 'sum', in the pinned program and in every row, IS THE sha256 OF THE DUMP (.gsa) THAT Qxb6623438aProg.lean LOADS. Nothing in Lean hashes anything: it is a label: what it is worth is what the hold of that sum in a sandbox is worth. -/
noncomputable def Try.pinned : Pinned := { name := "qxb6623438a", sum := "3b68391ca2b5c8f07f6a267f88669f414255d2d27b8cec23cb382ca829be7508", checked := Try.checked }
namespace Rows
def none {H : Type} : Left H := { results := [], args := [] }

/-- 'zzlaws_protocol_b1.FnFillScriptSplitsArrivalsBetweenBlockAndBuffer': WHATEVER THE INPUT: true; the input reads as it did. -/
def fnFillScriptSplitsArrivalsBetweenBlockAndBufferSpec : ChangeSpec := { name := "fnFillScriptSplitsArrivalsBetweenBlockAndBuffer", fn := fun _ => fun
  | [d1, d2, d3, d4, d5, d6, d7, d8, d9, d10, d11] => { results := [.lit (.bool true)], args := [d1, d2, d3, d4, d5, d6, d7, d8, d9, d10, d11] }
  | _ => none }
def fnFillScriptSplitsArrivalsBetweenBlockAndBufferRow : OpenClaim := { program := "qxb6623438a", sum := "3b68391ca2b5c8f07f6a267f88669f414255d2d27b8cec23cb382ca829be7508", func := "example.com/holdfast/holdfast/zzlaws_protocol_b1.FnFillScriptSplitsArrivalsBetweenBlockAndBuffer", spec := "fnFillScriptSplitsArrivalsBetweenBlockAndBuffer", apart := false }
def FnFillScriptSplitsArrivalsBetweenBlockAndBufferSaid : Prop := fnFillScriptSplitsArrivalsBetweenBlockAndBufferRow.holds Try.pinned (OpenSpec.ofChange fnFillScriptSplitsArrivalsBetweenBlockAndBufferSpec)

/-- ITS FALSE NEIGHBOUR: 'it returns false'. Refute it at one input. -/
def fnFillScriptSplitsArrivalsBetweenBlockAndBufferWrong : ChangeSpec := { name := "fnFillScriptSplitsArrivalsBetweenBlockAndBuffer", fn := fun _ => fun
  | [d1, d2, d3, d4, d5, d6, d7, d8, d9, d10, d11] => { results := [.lit (.bool false)], args := [d1, d2, d3, d4, d5, d6, d7, d8, d9, d10, d11] }
  | _ => none }
def FnFillScriptSplitsArrivalsBetweenBlockAndBufferWrongFalsely : Prop := fnFillScriptSplitsArrivalsBetweenBlockAndBufferRow.holds Try.pinned (OpenSpec.ofChange fnFillScriptSplitsArrivalsBetweenBlockAndBufferWrong)

end Rows
end Go.Proofs.Qxb6623438a
