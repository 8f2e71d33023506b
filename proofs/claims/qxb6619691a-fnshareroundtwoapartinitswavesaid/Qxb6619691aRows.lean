/-
  No cell of these rows narrows 'for every input' (looked for: loops, veiled, ifaces, maps, wideKeys, modest, calm, conditions, laid).
  DERIVED. THE GIVEN ROWS OF THIS SEAT. 4 by the template 'for every input the law returns true; each argument reads behind the call as it read before'; 0 by the template 'total and deterministic' (their statements: Qxb6619691aTotals.lean).
  GIVEN WITH THE SEED: the statements are not yours to turn. If you find one false, say at which input.
  Laid BY PROGRAM, IN A SANDBOX (cutbox-rows.mjs): the forced cells as the released guide's own fill.sh prints them over the translation 659db10798568f6a… (all of the seat's roots in one cut). By AI agents, Wed Nov 11 2026. No macro, syntax, notation, axiom, sorry.
-/
import Derived.Test.Qxb6619691aChecked
import GoSem.Claim
import GoSem.ClaimJoined
import GoSem.ClaimMapViews
import Derived.JoinedTies
import Derived.KernelRfl
namespace Go.Proofs.Qxb6619691a
/- THE CELL 'sum', in the pinned program and in every row, IS THE sha256 OF THE DUMP (.gsa) THAT Qxb6619691aProg.lean LOADS. Nothing in Lean hashes anything: it is a label: what it is worth is what the hold of that sum in a sandbox is worth. -/
noncomputable def Try.pinned : Pinned := { name := "qxb6619691a", sum := "659db10798568f6aa3a680386776fc846034f9c83cb7c70ff1fc03bf33125eaf", checked := Try.checked }
namespace Rows
def none {H : Type} : Left H := { results := [], args := [] }

/-- 'zzlaws_internal_protocol_b1.FnShareRoundSharedWaveRoundTrip': WHATEVER THE INPUT: true; the input reads as it did. -/
def fnShareRoundSharedWaveRoundTripSpec : ChangeSpec := { name := "fnShareRoundSharedWaveRoundTrip", fn := fun _ => fun
  | [d1, d2] => { results := [.lit (.bool true)], args := [d1, d2] }
  | _ => none }
def fnShareRoundSharedWaveRoundTripRow : OpenClaim := { program := "qxb6619691a", sum := "659db10798568f6aa3a680386776fc846034f9c83cb7c70ff1fc03bf33125eaf", func := "example.com/swiftweave/swiftweave/zzlaws_internal_protocol_b1.FnShareRoundSharedWaveRoundTrip", spec := "fnShareRoundSharedWaveRoundTrip", apart := false }
def FnShareRoundSharedWaveRoundTripSaid : Prop := fnShareRoundSharedWaveRoundTripRow.holds Try.pinned (OpenSpec.ofChange fnShareRoundSharedWaveRoundTripSpec)

/-- ITS FALSE NEIGHBOUR: 'it returns false'. Refute it at one input. -/
def fnShareRoundSharedWaveRoundTripWrong : ChangeSpec := { name := "fnShareRoundSharedWaveRoundTrip", fn := fun _ => fun
  | [d1, d2] => { results := [.lit (.bool false)], args := [d1, d2] }
  | _ => none }
def FnShareRoundSharedWaveRoundTripWrongFalsely : Prop := fnShareRoundSharedWaveRoundTripRow.holds Try.pinned (OpenSpec.ofChange fnShareRoundSharedWaveRoundTripWrong)

/-- 'zzlaws_internal_protocol_b1.FnSharedFromLeastWaveSharingAtOrAfter': WHATEVER THE INPUT: true; the input reads as it did. -/
def fnSharedFromLeastWaveSharingAtOrAfterSpec : ChangeSpec := { name := "fnSharedFromLeastWaveSharingAtOrAfter", fn := fun _ => fun
  | [d1, d2] => { results := [.lit (.bool true)], args := [d1, d2] }
  | _ => none }
def fnSharedFromLeastWaveSharingAtOrAfterRow : OpenClaim := { program := "qxb6619691a", sum := "659db10798568f6aa3a680386776fc846034f9c83cb7c70ff1fc03bf33125eaf", func := "example.com/swiftweave/swiftweave/zzlaws_internal_protocol_b1.FnSharedFromLeastWaveSharingAtOrAfter", spec := "fnSharedFromLeastWaveSharingAtOrAfter", apart := false }
def FnSharedFromLeastWaveSharingAtOrAfterSaid : Prop := fnSharedFromLeastWaveSharingAtOrAfterRow.holds Try.pinned (OpenSpec.ofChange fnSharedFromLeastWaveSharingAtOrAfterSpec)

/-- ITS FALSE NEIGHBOUR: 'it returns false'. Refute it at one input. -/
def fnSharedFromLeastWaveSharingAtOrAfterWrong : ChangeSpec := { name := "fnSharedFromLeastWaveSharingAtOrAfter", fn := fun _ => fun
  | [d1, d2] => { results := [.lit (.bool false)], args := [d1, d2] }
  | _ => none }
def FnSharedFromLeastWaveSharingAtOrAfterWrongFalsely : Prop := fnSharedFromLeastWaveSharingAtOrAfterRow.holds Try.pinned (OpenSpec.ofChange fnSharedFromLeastWaveSharingAtOrAfterWrong)

/-- 'zzlaws_internal_protocol_b1.FnSharedWaveEveryOtherRound': WHATEVER THE INPUT: true; the input reads as it did. -/
def fnSharedWaveEveryOtherRoundSpec : ChangeSpec := { name := "fnSharedWaveEveryOtherRound", fn := fun _ => fun
  | [d1, d2] => { results := [.lit (.bool true)], args := [d1, d2] }
  | _ => none }
def fnSharedWaveEveryOtherRoundRow : OpenClaim := { program := "qxb6619691a", sum := "659db10798568f6aa3a680386776fc846034f9c83cb7c70ff1fc03bf33125eaf", func := "example.com/swiftweave/swiftweave/zzlaws_internal_protocol_b1.FnSharedWaveEveryOtherRound", spec := "fnSharedWaveEveryOtherRound", apart := false }
def FnSharedWaveEveryOtherRoundSaid : Prop := fnSharedWaveEveryOtherRoundRow.holds Try.pinned (OpenSpec.ofChange fnSharedWaveEveryOtherRoundSpec)

/-- ITS FALSE NEIGHBOUR: 'it returns false'. Refute it at one input. -/
def fnSharedWaveEveryOtherRoundWrong : ChangeSpec := { name := "fnSharedWaveEveryOtherRound", fn := fun _ => fun
  | [d1, d2] => { results := [.lit (.bool false)], args := [d1, d2] }
  | _ => none }
def FnSharedWaveEveryOtherRoundWrongFalsely : Prop := fnSharedWaveEveryOtherRoundRow.holds Try.pinned (OpenSpec.ofChange fnSharedWaveEveryOtherRoundWrong)

/-- 'zzlaws_internal_protocol_b1.FnShareRoundTwoApartInItsWave': WHATEVER THE INPUT: true; the input reads as it did. -/
def fnShareRoundTwoApartInItsWaveSpec : ChangeSpec := { name := "fnShareRoundTwoApartInItsWave", fn := fun _ => fun
  | [d1, d2] => { results := [.lit (.bool true)], args := [d1, d2] }
  | _ => none }
def fnShareRoundTwoApartInItsWaveRow : OpenClaim := { program := "qxb6619691a", sum := "659db10798568f6aa3a680386776fc846034f9c83cb7c70ff1fc03bf33125eaf", func := "example.com/swiftweave/swiftweave/zzlaws_internal_protocol_b1.FnShareRoundTwoApartInItsWave", spec := "fnShareRoundTwoApartInItsWave", apart := false }
def FnShareRoundTwoApartInItsWaveSaid : Prop := fnShareRoundTwoApartInItsWaveRow.holds Try.pinned (OpenSpec.ofChange fnShareRoundTwoApartInItsWaveSpec)

/-- ITS FALSE NEIGHBOUR: 'it returns false'. Refute it at one input. -/
def fnShareRoundTwoApartInItsWaveWrong : ChangeSpec := { name := "fnShareRoundTwoApartInItsWave", fn := fun _ => fun
  | [d1, d2] => { results := [.lit (.bool false)], args := [d1, d2] }
  | _ => none }
def FnShareRoundTwoApartInItsWaveWrongFalsely : Prop := fnShareRoundTwoApartInItsWaveRow.holds Try.pinned (OpenSpec.ofChange fnShareRoundTwoApartInItsWaveWrong)

end Rows
end Go.Proofs.Qxb6619691a
