/-
  No cell of these rows narrows 'for every input' (looked for: loops, veiled, ifaces, maps, wideKeys, modest, calm, conditions, laid).
  DERIVED. THE GIVEN ROWS OF THIS SEAT. 7 by the template 'for every input the law returns true; each argument reads behind the call as it read before'; 0 by the template 'total and deterministic' (their statements: Qxb6000859aTotals.lean).
  GIVEN WITH THE SEED: the statements are not yours to turn. If you find one false, say at which input.
  Laid BY PROGRAM, IN A SANDBOX (cutbox-rows.mjs): the forced cells as the released guide's own fill.sh prints them over the translation 3f9383204eed5af9… (all of the seat's roots in one cut). By AI agents, Wed Nov 11 2026. No macro, syntax, notation, axiom, sorry.
-/
import Derived.Test.Qxb6000859aChecked
import GoSem.Claim
import GoSem.ClaimJoined
import GoSem.ClaimMapViews
import Derived.JoinedTies
import Derived.KernelRfl
namespace Go.Proofs.Qxb6000859a
/- THE CELL 'sum', in the pinned program and in every row, IS THE sha256 OF THE DUMP (.gsa) THAT Qxb6000859aProg.lean LOADS. Nothing in Lean hashes anything: it is a label: what it is worth is what the hold of that sum in a sandbox is worth. -/
noncomputable def Try.pinned : Pinned := { name := "qxb6000859a", sum := "3f9383204eed5af9b7ba117b9490db59cb52295c9eae35bfc79418702c953384", checked := Try.checked }
namespace Rows
def none {H : Type} : Left H := { results := [], args := [] }

/-- 'zzlaws_root_b1.FnEscapeRoundTrip': WHATEVER THE INPUT: true; the input reads as it did. -/
def fnEscapeRoundTripSpec : ChangeSpec := { name := "fnEscapeRoundTrip", fn := fun _ => fun
  | [d] => { results := [.lit (.bool true)], args := [d] }
  | _ => none }
def fnEscapeRoundTripRow : OpenClaim := { program := "qxb6000859a", sum := "3f9383204eed5af9b7ba117b9490db59cb52295c9eae35bfc79418702c953384", func := "example.com/keystride/keystride/zzlaws_root_b1.FnEscapeRoundTrip", spec := "fnEscapeRoundTrip", inPlace := ["internal/bytealg.IndexByteString", "internal/abi.NoEscape"], apart := false }
def FnEscapeRoundTripSaid : Prop := fnEscapeRoundTripRow.holds Try.pinned (OpenSpec.ofChange fnEscapeRoundTripSpec)

/-- ITS FALSE NEIGHBOUR: 'it returns false'. Refute it at one input. -/
def fnEscapeRoundTripWrong : ChangeSpec := { name := "fnEscapeRoundTrip", fn := fun _ => fun
  | [d] => { results := [.lit (.bool false)], args := [d] }
  | _ => none }
def FnEscapeRoundTripWrongFalsely : Prop := fnEscapeRoundTripRow.holds Try.pinned (OpenSpec.ofChange fnEscapeRoundTripWrong)

/-- 'zzlaws_root_b1.FnEscapeConcat': WHATEVER THE INPUT: true; the input reads as it did. -/
def fnEscapeConcatSpec : ChangeSpec := { name := "fnEscapeConcat", fn := fun _ => fun
  | [d1, d2] => { results := [.lit (.bool true)], args := [d1, d2] }
  | _ => none }
def fnEscapeConcatRow : OpenClaim := { program := "qxb6000859a", sum := "3f9383204eed5af9b7ba117b9490db59cb52295c9eae35bfc79418702c953384", func := "example.com/keystride/keystride/zzlaws_root_b1.FnEscapeConcat", spec := "fnEscapeConcat", inPlace := ["internal/bytealg.IndexByteString", "internal/abi.NoEscape"], apart := false }
def FnEscapeConcatSaid : Prop := fnEscapeConcatRow.holds Try.pinned (OpenSpec.ofChange fnEscapeConcatSpec)

/-- ITS FALSE NEIGHBOUR: 'it returns false'. Refute it at one input. -/
def fnEscapeConcatWrong : ChangeSpec := { name := "fnEscapeConcat", fn := fun _ => fun
  | [d1, d2] => { results := [.lit (.bool false)], args := [d1, d2] }
  | _ => none }
def FnEscapeConcatWrongFalsely : Prop := fnEscapeConcatRow.holds Try.pinned (OpenSpec.ofChange fnEscapeConcatWrong)

/-- 'zzlaws_root_b1.FnEscapeFixedPointAndLength': WHATEVER THE INPUT: true; the input reads as it did. -/
def fnEscapeFixedPointAndLengthSpec : ChangeSpec := { name := "fnEscapeFixedPointAndLength", fn := fun _ => fun
  | [d] => { results := [.lit (.bool true)], args := [d] }
  | _ => none }
def fnEscapeFixedPointAndLengthRow : OpenClaim := { program := "qxb6000859a", sum := "3f9383204eed5af9b7ba117b9490db59cb52295c9eae35bfc79418702c953384", func := "example.com/keystride/keystride/zzlaws_root_b1.FnEscapeFixedPointAndLength", spec := "fnEscapeFixedPointAndLength", inPlace := ["internal/bytealg.IndexByteString", "internal/abi.NoEscape"], apart := false }
def FnEscapeFixedPointAndLengthSaid : Prop := fnEscapeFixedPointAndLengthRow.holds Try.pinned (OpenSpec.ofChange fnEscapeFixedPointAndLengthSpec)

/-- ITS FALSE NEIGHBOUR: 'it returns false'. Refute it at one input. -/
def fnEscapeFixedPointAndLengthWrong : ChangeSpec := { name := "fnEscapeFixedPointAndLength", fn := fun _ => fun
  | [d] => { results := [.lit (.bool false)], args := [d] }
  | _ => none }
def FnEscapeFixedPointAndLengthWrongFalsely : Prop := fnEscapeFixedPointAndLengthRow.holds Try.pinned (OpenSpec.ofChange fnEscapeFixedPointAndLengthWrong)

/-- 'zzlaws_root_b1.FnScratchCodeAcceptsPaddedNumbers': WHATEVER THE INPUT: true; the input reads as it did. -/
def fnScratchCodeAcceptsPaddedNumbersSpec : ChangeSpec := { name := "fnScratchCodeAcceptsPaddedNumbers", fn := fun _ => fun
  | [d] => { results := [.lit (.bool true)], args := [d] }
  | _ => none }
def fnScratchCodeAcceptsPaddedNumbersRow : OpenClaim := { program := "qxb6000859a", sum := "3f9383204eed5af9b7ba117b9490db59cb52295c9eae35bfc79418702c953384", func := "example.com/keystride/keystride/zzlaws_root_b1.FnScratchCodeAcceptsPaddedNumbers", spec := "fnScratchCodeAcceptsPaddedNumbers", apart := false }
def FnScratchCodeAcceptsPaddedNumbersSaid : Prop := fnScratchCodeAcceptsPaddedNumbersRow.holds Try.pinned (OpenSpec.ofChange fnScratchCodeAcceptsPaddedNumbersSpec)

/-- ITS FALSE NEIGHBOUR: 'it returns false'. Refute it at one input. -/
def fnScratchCodeAcceptsPaddedNumbersWrong : ChangeSpec := { name := "fnScratchCodeAcceptsPaddedNumbers", fn := fun _ => fun
  | [d] => { results := [.lit (.bool false)], args := [d] }
  | _ => none }
def FnScratchCodeAcceptsPaddedNumbersWrongFalsely : Prop := fnScratchCodeAcceptsPaddedNumbersRow.holds Try.pinned (OpenSpec.ofChange fnScratchCodeAcceptsPaddedNumbersWrong)

/-- 'zzlaws_root_b1.FnScratchCodeAcceptedAreRenderings': WHATEVER THE INPUT: true; the input reads as it did. -/
def fnScratchCodeAcceptedAreRenderingsSpec : ChangeSpec := { name := "fnScratchCodeAcceptedAreRenderings", fn := fun _ => fun
  | [d] => { results := [.lit (.bool true)], args := [d] }
  | _ => none }
def fnScratchCodeAcceptedAreRenderingsRow : OpenClaim := { program := "qxb6000859a", sum := "3f9383204eed5af9b7ba117b9490db59cb52295c9eae35bfc79418702c953384", func := "example.com/keystride/keystride/zzlaws_root_b1.FnScratchCodeAcceptedAreRenderings", spec := "fnScratchCodeAcceptedAreRenderings", apart := false }
def FnScratchCodeAcceptedAreRenderingsSaid : Prop := fnScratchCodeAcceptedAreRenderingsRow.holds Try.pinned (OpenSpec.ofChange fnScratchCodeAcceptedAreRenderingsSpec)

/-- ITS FALSE NEIGHBOUR: 'it returns false'. Refute it at one input. -/
def fnScratchCodeAcceptedAreRenderingsWrong : ChangeSpec := { name := "fnScratchCodeAcceptedAreRenderings", fn := fun _ => fun
  | [d] => { results := [.lit (.bool false)], args := [d] }
  | _ => none }
def FnScratchCodeAcceptedAreRenderingsWrongFalsely : Prop := fnScratchCodeAcceptedAreRenderingsRow.holds Try.pinned (OpenSpec.ofChange fnScratchCodeAcceptedAreRenderingsWrong)

/-- 'zzlaws_root_b1.FnScratchCodeRefusesDamaged': WHATEVER THE INPUT: true; the input reads as it did. -/
def fnScratchCodeRefusesDamagedSpec : ChangeSpec := { name := "fnScratchCodeRefusesDamaged", fn := fun _ => fun
  | [d1, d2, d3] => { results := [.lit (.bool true)], args := [d1, d2, d3] }
  | _ => none }
def fnScratchCodeRefusesDamagedRow : OpenClaim := { program := "qxb6000859a", sum := "3f9383204eed5af9b7ba117b9490db59cb52295c9eae35bfc79418702c953384", func := "example.com/keystride/keystride/zzlaws_root_b1.FnScratchCodeRefusesDamaged", spec := "fnScratchCodeRefusesDamaged", apart := false }
def FnScratchCodeRefusesDamagedSaid : Prop := fnScratchCodeRefusesDamagedRow.holds Try.pinned (OpenSpec.ofChange fnScratchCodeRefusesDamagedSpec)

/-- ITS FALSE NEIGHBOUR: 'it returns false'. Refute it at one input. -/
def fnScratchCodeRefusesDamagedWrong : ChangeSpec := { name := "fnScratchCodeRefusesDamaged", fn := fun _ => fun
  | [d1, d2, d3] => { results := [.lit (.bool false)], args := [d1, d2, d3] }
  | _ => none }
def FnScratchCodeRefusesDamagedWrongFalsely : Prop := fnScratchCodeRefusesDamagedRow.holds Try.pinned (OpenSpec.ofChange fnScratchCodeRefusesDamagedWrong)

/-- 'zzlaws_root_b1.FnWindowLimitsOrdered': WHATEVER THE INPUT: true; the input reads as it did. -/
def fnWindowLimitsOrderedSpec : ChangeSpec := { name := "fnWindowLimitsOrdered", fn := fun _ => fun
  | [d] => { results := [.lit (.bool true)], args := [d] }
  | _ => none }
def fnWindowLimitsOrderedRow : OpenClaim := { program := "qxb6000859a", sum := "3f9383204eed5af9b7ba117b9490db59cb52295c9eae35bfc79418702c953384", func := "example.com/keystride/keystride/zzlaws_root_b1.FnWindowLimitsOrdered", spec := "fnWindowLimitsOrdered", apart := false }
def FnWindowLimitsOrderedSaid : Prop := fnWindowLimitsOrderedRow.holds Try.pinned (OpenSpec.ofChange fnWindowLimitsOrderedSpec)

/-- ITS FALSE NEIGHBOUR: 'it returns false'. Refute it at one input. -/
def fnWindowLimitsOrderedWrong : ChangeSpec := { name := "fnWindowLimitsOrdered", fn := fun _ => fun
  | [d] => { results := [.lit (.bool false)], args := [d] }
  | _ => none }
def FnWindowLimitsOrderedWrongFalsely : Prop := fnWindowLimitsOrderedRow.holds Try.pinned (OpenSpec.ofChange fnWindowLimitsOrderedWrong)

end Rows
end Go.Proofs.Qxb6000859a
