/-
  No cell of these rows narrows 'for every input' (looked for: loops, veiled, ifaces, maps, wideKeys, modest, calm, conditions, laid).
  DERIVED. THE GIVEN ROWS OF THIS SEAT. 2 by the template 'for every input the law returns true; each argument reads behind the call as it read before'; 0 by the template 'total and deterministic' (their statements: Qxb6623403aTotals.lean).
  GIVEN WITH THE SEED: the statements are not yours to turn. If you find one false, say at which input.
  Laid BY PROGRAM, IN A SANDBOX (cutbox-rows.mjs): the forced cells as the released guide's own fill.sh prints them over the translation acd5347f0341ee59… (all of the seat's roots in one cut). By AI agents, Wed Nov 11 2026. No macro, syntax, notation, axiom, sorry.
-/
import Derived.Test.Qxb6623403aChecked
import GoSem.Claim
import GoSem.ClaimJoined
import GoSem.ClaimMapViews
import Derived.JoinedTies
import Derived.KernelRfl
namespace Go.Proofs.Qxb6623403a
/- THE CELL 'sum', in the pinned program and in every row, IS THE sha256 OF THE DUMP (.gsa) THAT Qxb6623403aProg.lean LOADS. Nothing in Lean hashes anything: it is a label: what it is worth is what the hold of that sum in a sandbox is worth. -/
noncomputable def Try.pinned : Pinned := { name := "qxb6623403a", sum := "acd5347f0341ee59f3b2ab8ac2e475c2f5c2ab4afc9b1995b0f19edbef41ae52", checked := Try.checked }
namespace Rows
def none {H : Type} : Left H := { results := [], args := [] }

/-- 'zzlaws_access_b1.FnScopesStringInsertOne': WHATEVER THE INPUT: true; the input reads as it did. -/
def fnScopesStringInsertOneSpec : ChangeSpec := { name := "fnScopesStringInsertOne", fn := fun _ => fun
  | [d1, d2, d3] => { results := [.lit (.bool true)], args := [d1, d2, d3] }
  | _ => none }
def fnScopesStringInsertOneRow : OpenClaim := { program := "qxb6623403a", sum := "acd5347f0341ee59f3b2ab8ac2e475c2f5c2ab4afc9b1995b0f19edbef41ae52", func := "example.com/wacht/wacht/zzlaws_access_b1.FnScopesStringInsertOne", spec := "fnScopesStringInsertOne", inPlace := ["internal/abi.NoEscape", "internal/bytealg.MakeNoZero"], apart := false }
def FnScopesStringInsertOneSaid : Prop := fnScopesStringInsertOneRow.holds Try.pinned (OpenSpec.ofChange fnScopesStringInsertOneSpec)

/-- ITS FALSE NEIGHBOUR: 'it returns false'. Refute it at one input. -/
def fnScopesStringInsertOneWrong : ChangeSpec := { name := "fnScopesStringInsertOne", fn := fun _ => fun
  | [d1, d2, d3] => { results := [.lit (.bool false)], args := [d1, d2, d3] }
  | _ => none }
def FnScopesStringInsertOneWrongFalsely : Prop := fnScopesStringInsertOneRow.holds Try.pinned (OpenSpec.ofChange fnScopesStringInsertOneWrong)

/-- 'zzlaws_access_b1.FnScopesStringSplitsBack': WHATEVER THE INPUT: true; the input reads as it did. -/
def fnScopesStringSplitsBackSpec : ChangeSpec := { name := "fnScopesStringSplitsBack", fn := fun _ => fun
  | [d] => { results := [.lit (.bool true)], args := [d] }
  | _ => none }
def fnScopesStringSplitsBackRow : OpenClaim := { program := "qxb6623403a", sum := "acd5347f0341ee59f3b2ab8ac2e475c2f5c2ab4afc9b1995b0f19edbef41ae52", func := "example.com/wacht/wacht/zzlaws_access_b1.FnScopesStringSplitsBack", spec := "fnScopesStringSplitsBack", inPlace := ["internal/abi.NoEscape", "internal/bytealg.MakeNoZero"], apart := false }
def FnScopesStringSplitsBackSaid : Prop := fnScopesStringSplitsBackRow.holds Try.pinned (OpenSpec.ofChange fnScopesStringSplitsBackSpec)

/-- ITS FALSE NEIGHBOUR: 'it returns false'. Refute it at one input. -/
def fnScopesStringSplitsBackWrong : ChangeSpec := { name := "fnScopesStringSplitsBack", fn := fun _ => fun
  | [d] => { results := [.lit (.bool false)], args := [d] }
  | _ => none }
def FnScopesStringSplitsBackWrongFalsely : Prop := fnScopesStringSplitsBackRow.holds Try.pinned (OpenSpec.ofChange fnScopesStringSplitsBackWrong)

end Rows
end Go.Proofs.Qxb6623403a
