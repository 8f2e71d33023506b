/-
  No cell of these rows narrows 'for every input' (looked for: loops, veiled, ifaces, maps, wideKeys, modest, calm, conditions, laid).
  DERIVED. THE GIVEN ROWS OF THIS SEAT. 1 by the template 'for every input the law returns true; each argument reads behind the call as it read before'; 0 by the template 'total and deterministic' (their statements: Qxb6623423aTotals.lean).
  GIVEN WITH THE SEED: the statements are not yours to turn. If you find one false, say at which input.
  Laid BY PROGRAM, IN A SANDBOX (cutbox-rows.mjs): the forced cells as the released guide's own fill.sh prints them over the translation e4b7b57357b5499a… (all of the seat's roots in one cut). By AI agents, Wed Nov 11 2026. No macro, syntax, notation, axiom, sorry.
-/
import Derived.Test.Qxb6623423aChecked
import GoSem.Claim
import GoSem.ClaimJoined
import GoSem.ClaimMapViews
import Derived.JoinedTies
import Derived.KernelRfl
namespace Go.Proofs.Qxb6623423a
/- THE CELL 'sum', in the pinned program and in every row, IS THE sha256 OF THE DUMP (.gsa) THAT Qxb6623423aProg.lean LOADS. Nothing in Lean hashes anything: it is a label: what it is worth is what the hold of that sum in a sandbox is worth. -/
noncomputable def Try.pinned : Pinned := { name := "qxb6623423a", sum := "e4b7b57357b5499ac6c0715f6f13e752be0f93ac00d38a729f46705f7938fcde", checked := Try.checked }
namespace Rows
def none {H : Type} : Left H := { results := [], args := [] }

/-- 'zzlaws_root_b1.FnReboundThereAndBackRestores': WHATEVER THE INPUT: true; the input reads as it did. -/
def fnReboundThereAndBackRestoresSpec : ChangeSpec := { name := "fnReboundThereAndBackRestores", fn := fun _ => fun
  | [d1, d2, d3] => { results := [.lit (.bool true)], args := [d1, d2, d3] }
  | _ => none }
def fnReboundThereAndBackRestoresRow : OpenClaim := { program := "qxb6623423a", sum := "e4b7b57357b5499ac6c0715f6f13e752be0f93ac00d38a729f46705f7938fcde", func := "example.com/arbora/arbora/zzlaws_root_b1.FnReboundThereAndBackRestores", spec := "fnReboundThereAndBackRestores", apart := false }
def FnReboundThereAndBackRestoresSaid : Prop := fnReboundThereAndBackRestoresRow.holds Try.pinned (OpenSpec.ofChange fnReboundThereAndBackRestoresSpec)

/-- ITS FALSE NEIGHBOUR: 'it returns false'. Refute it at one input. -/
def fnReboundThereAndBackRestoresWrong : ChangeSpec := { name := "fnReboundThereAndBackRestores", fn := fun _ => fun
  | [d1, d2, d3] => { results := [.lit (.bool false)], args := [d1, d2, d3] }
  | _ => none }
def FnReboundThereAndBackRestoresWrongFalsely : Prop := fnReboundThereAndBackRestoresRow.holds Try.pinned (OpenSpec.ofChange fnReboundThereAndBackRestoresWrong)

end Rows
end Go.Proofs.Qxb6623423a
