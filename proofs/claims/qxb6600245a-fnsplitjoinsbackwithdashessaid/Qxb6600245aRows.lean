/-
  No cell of these rows narrows 'for every input' (looked for: loops, veiled, ifaces, maps, wideKeys, modest, calm, conditions, laid).
  DERIVED. THE GIVEN ROWS OF THIS SEAT. 4 by the template 'for every input the law returns true; each argument reads behind the call as it read before'; 0 by the template 'total and deterministic' (their statements: Qxb6600245aTotals.lean).
  GIVEN WITH THE SEED: the statements are not yours to turn. If you find one false, say at which input.
  Laid BY PROGRAM, IN A SANDBOX (cutbox-rows.mjs): the forced cells as the released guide's own fill.sh prints them over the translation 8cf1c47e37d730d9… (all of the seat's roots in one cut). By AI agents, Wed Nov 11 2026. No macro, syntax, notation, axiom, sorry.
-/
import Derived.Test.Qxb6600245aChecked
import GoSem.Claim
import GoSem.ClaimJoined
import GoSem.ClaimMapViews
import Derived.JoinedTies
import Derived.KernelRfl
namespace Go.Proofs.Qxb6600245a
/- THE CELL 'sum', in the pinned program and in every row, IS THE sha256 OF THE DUMP (.gsa) THAT Qxb6600245aProg.lean LOADS. Nothing in Lean hashes anything: it is a label: what it is worth is what the hold of that sum in a sandbox is worth. -/
noncomputable def Try.pinned : Pinned := { name := "qxb6600245a", sum := "8cf1c47e37d730d933233ca30ea57d6ca0391c4c5a97ee8496115497b5e14490", checked := Try.checked }
namespace Rows
def none {H : Type} : Left H := { results := [], args := [] }

/-- 'zzlaws_pkg_manifest_b1.FnIsMarkerLooksNoFurther': WHATEVER THE INPUT: true; the input reads as it did. -/
def fnIsMarkerLooksNoFurtherSpec : ChangeSpec := { name := "fnIsMarkerLooksNoFurther", fn := fun _ => fun
  | [d1, d2, d3] => { results := [.lit (.bool true)], args := [d1, d2, d3] }
  | _ => none }
def fnIsMarkerLooksNoFurtherRow : OpenClaim := { program := "qxb6600245a", sum := "8cf1c47e37d730d933233ca30ea57d6ca0391c4c5a97ee8496115497b5e14490", func := "example.com/regokeep/regokeep/zzlaws_pkg_manifest_b1.FnIsMarkerLooksNoFurther", spec := "fnIsMarkerLooksNoFurther", apart := false }
def FnIsMarkerLooksNoFurtherSaid : Prop := fnIsMarkerLooksNoFurtherRow.holds Try.pinned (OpenSpec.ofChange fnIsMarkerLooksNoFurtherSpec)

/-- ITS FALSE NEIGHBOUR: 'it returns false'. Refute it at one input. -/
def fnIsMarkerLooksNoFurtherWrong : ChangeSpec := { name := "fnIsMarkerLooksNoFurther", fn := fun _ => fun
  | [d1, d2, d3] => { results := [.lit (.bool false)], args := [d1, d2, d3] }
  | _ => none }
def FnIsMarkerLooksNoFurtherWrongFalsely : Prop := fnIsMarkerLooksNoFurtherRow.holds Try.pinned (OpenSpec.ofChange fnIsMarkerLooksNoFurtherWrong)

/-- 'zzlaws_pkg_manifest_b1.FnSplitCutsAtMarkerLines': WHATEVER THE INPUT: true; the input reads as it did. -/
def fnSplitCutsAtMarkerLinesSpec : ChangeSpec := { name := "fnSplitCutsAtMarkerLines", fn := fun _ => fun
  | [d] => { results := [.lit (.bool true)], args := [d] }
  | _ => none }
def fnSplitCutsAtMarkerLinesRow : OpenClaim := { program := "qxb6600245a", sum := "8cf1c47e37d730d933233ca30ea57d6ca0391c4c5a97ee8496115497b5e14490", func := "example.com/regokeep/regokeep/zzlaws_pkg_manifest_b1.FnSplitCutsAtMarkerLines", spec := "fnSplitCutsAtMarkerLines", inPlace := ["internal/bytealg.IndexByte"], apart := false }
def FnSplitCutsAtMarkerLinesSaid : Prop := fnSplitCutsAtMarkerLinesRow.holds Try.pinned (OpenSpec.ofChange fnSplitCutsAtMarkerLinesSpec)

/-- ITS FALSE NEIGHBOUR: 'it returns false'. Refute it at one input. -/
def fnSplitCutsAtMarkerLinesWrong : ChangeSpec := { name := "fnSplitCutsAtMarkerLines", fn := fun _ => fun
  | [d] => { results := [.lit (.bool false)], args := [d] }
  | _ => none }
def FnSplitCutsAtMarkerLinesWrongFalsely : Prop := fnSplitCutsAtMarkerLinesRow.holds Try.pinned (OpenSpec.ofChange fnSplitCutsAtMarkerLinesWrong)

/-- 'zzlaws_pkg_manifest_b1.FnSplitJoinsBackWithDashes': WHATEVER THE INPUT: true; the input reads as it did. -/
def fnSplitJoinsBackWithDashesSpec : ChangeSpec := { name := "fnSplitJoinsBackWithDashes", fn := fun _ => fun
  | [d] => { results := [.lit (.bool true)], args := [d] }
  | _ => none }
def fnSplitJoinsBackWithDashesRow : OpenClaim := { program := "qxb6600245a", sum := "8cf1c47e37d730d933233ca30ea57d6ca0391c4c5a97ee8496115497b5e14490", func := "example.com/regokeep/regokeep/zzlaws_pkg_manifest_b1.FnSplitJoinsBackWithDashes", spec := "fnSplitJoinsBackWithDashes", inPlace := ["internal/bytealg.IndexByte"], apart := false }
def FnSplitJoinsBackWithDashesSaid : Prop := fnSplitJoinsBackWithDashesRow.holds Try.pinned (OpenSpec.ofChange fnSplitJoinsBackWithDashesSpec)

/-- ITS FALSE NEIGHBOUR: 'it returns false'. Refute it at one input. -/
def fnSplitJoinsBackWithDashesWrong : ChangeSpec := { name := "fnSplitJoinsBackWithDashes", fn := fun _ => fun
  | [d] => { results := [.lit (.bool false)], args := [d] }
  | _ => none }
def FnSplitJoinsBackWithDashesWrongFalsely : Prop := fnSplitJoinsBackWithDashesRow.holds Try.pinned (OpenSpec.ofChange fnSplitJoinsBackWithDashesWrong)

/-- 'zzlaws_pkg_manifest_b1.FnSplitChunksHoldNoMarkerLine': WHATEVER THE INPUT: true; the input reads as it did. -/
def fnSplitChunksHoldNoMarkerLineSpec : ChangeSpec := { name := "fnSplitChunksHoldNoMarkerLine", fn := fun _ => fun
  | [d] => { results := [.lit (.bool true)], args := [d] }
  | _ => none }
def fnSplitChunksHoldNoMarkerLineRow : OpenClaim := { program := "qxb6600245a", sum := "8cf1c47e37d730d933233ca30ea57d6ca0391c4c5a97ee8496115497b5e14490", func := "example.com/regokeep/regokeep/zzlaws_pkg_manifest_b1.FnSplitChunksHoldNoMarkerLine", spec := "fnSplitChunksHoldNoMarkerLine", inPlace := ["internal/bytealg.IndexByte"], apart := false }
def FnSplitChunksHoldNoMarkerLineSaid : Prop := fnSplitChunksHoldNoMarkerLineRow.holds Try.pinned (OpenSpec.ofChange fnSplitChunksHoldNoMarkerLineSpec)

/-- ITS FALSE NEIGHBOUR: 'it returns false'. Refute it at one input. -/
def fnSplitChunksHoldNoMarkerLineWrong : ChangeSpec := { name := "fnSplitChunksHoldNoMarkerLine", fn := fun _ => fun
  | [d] => { results := [.lit (.bool false)], args := [d] }
  | _ => none }
def FnSplitChunksHoldNoMarkerLineWrongFalsely : Prop := fnSplitChunksHoldNoMarkerLineRow.holds Try.pinned (OpenSpec.ofChange fnSplitChunksHoldNoMarkerLineWrong)

end Rows
end Go.Proofs.Qxb6600245a
