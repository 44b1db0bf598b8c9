/-
  No cell of these rows narrows 'for every input' (looked for: loops, veiled, ifaces, maps, wideKeys, modest, calm, conditions, laid).
  DERIVED. THE GIVEN ROWS OF THIS SEAT. 4 by the template 'for every input the law returns true; each argument reads behind the call as it read before'; 0 by the template 'total and deterministic' (their statements: Qxb6003776aTotals.lean).
  GIVEN WITH THE SEED: the statements are not yours to turn. If you find one false, say at which input.
  Laid BY PROGRAM, IN A SANDBOX (cutbox-rows.mjs): the forced cells as the released guide's own fill.sh prints them over the translation c3486663a77ddd26… (all of the seat's roots in one cut). By AI agents, Wed Nov 11 2026. No macro, syntax, notation, axiom, sorry.
-/
import Derived.Test.Qxb6003776aChecked
import GoSem.Claim
import GoSem.ClaimJoined
import GoSem.ClaimMapViews
import Derived.JoinedTies
import Derived.KernelRfl
namespace Go.Proofs.Qxb6003776a
/- THE CELL 'sum', in the pinned program and in every row, IS THE sha256 OF THE DUMP (.gsa) THAT Qxb6003776aProg.lean LOADS. Nothing in Lean hashes anything: it is a label: what it is worth is what the hold of that sum in a sandbox is worth. -/
noncomputable def Try.pinned : Pinned := { name := "qxb6003776a", sum := "c3486663a77ddd26fe4a452a3ad281efcb0fa3d57ce01cef377f3b68bcfedf55", checked := Try.checked }
namespace Rows
def none {H : Type} : Left H := { results := [], args := [] }

/-- 'zzlaws_internal_tangle_g1.FnSettleRunsMatchesModel': WHATEVER THE INPUT: true; the input reads as it did. -/
def fnSettleRunsMatchesModelSpec : ChangeSpec := { name := "fnSettleRunsMatchesModel", fn := fun _ => fun
  | [d1, d2, d3, d4] => { results := [.lit (.bool true)], args := [d1, d2, d3, d4] }
  | _ => none }
def fnSettleRunsMatchesModelRow : OpenClaim := { program := "qxb6003776a", sum := "c3486663a77ddd26fe4a452a3ad281efcb0fa3d57ce01cef377f3b68bcfedf55", func := "example.com/exact-tangle/exact-tangle/zzlaws_internal_tangle_g1.FnSettleRunsMatchesModel", spec := "fnSettleRunsMatchesModel", apart := false }
def FnSettleRunsMatchesModelSaid : Prop := fnSettleRunsMatchesModelRow.holds Try.pinned (OpenSpec.ofChange fnSettleRunsMatchesModelSpec)

/-- ITS FALSE NEIGHBOUR: 'it returns false'. Refute it at one input. -/
def fnSettleRunsMatchesModelWrong : ChangeSpec := { name := "fnSettleRunsMatchesModel", fn := fun _ => fun
  | [d1, d2, d3, d4] => { results := [.lit (.bool false)], args := [d1, d2, d3, d4] }
  | _ => none }
def FnSettleRunsMatchesModelWrongFalsely : Prop := fnSettleRunsMatchesModelRow.holds Try.pinned (OpenSpec.ofChange fnSettleRunsMatchesModelWrong)

/-- 'zzlaws_internal_tangle_g1.FnPlaceCountsTerminators': WHATEVER THE INPUT: true; the input reads as it did. -/
def fnPlaceCountsTerminatorsSpec : ChangeSpec := { name := "fnPlaceCountsTerminators", fn := fun _ => fun
  | [d1, d2, d3, d4, d5] => { results := [.lit (.bool true)], args := [d1, d2, d3, d4, d5] }
  | _ => none }
def fnPlaceCountsTerminatorsRow : OpenClaim := { program := "qxb6003776a", sum := "c3486663a77ddd26fe4a452a3ad281efcb0fa3d57ce01cef377f3b68bcfedf55", func := "example.com/exact-tangle/exact-tangle/zzlaws_internal_tangle_g1.FnPlaceCountsTerminators", spec := "fnPlaceCountsTerminators", inPlace := ["internal/bytealg.IndexByte"], apart := false }
def FnPlaceCountsTerminatorsSaid : Prop := fnPlaceCountsTerminatorsRow.holds Try.pinned (OpenSpec.ofChange fnPlaceCountsTerminatorsSpec)

/-- ITS FALSE NEIGHBOUR: 'it returns false'. Refute it at one input. -/
def fnPlaceCountsTerminatorsWrong : ChangeSpec := { name := "fnPlaceCountsTerminators", fn := fun _ => fun
  | [d1, d2, d3, d4, d5] => { results := [.lit (.bool false)], args := [d1, d2, d3, d4, d5] }
  | _ => none }
def FnPlaceCountsTerminatorsWrongFalsely : Prop := fnPlaceCountsTerminatorsRow.holds Try.pinned (OpenSpec.ofChange fnPlaceCountsTerminatorsWrong)

/-- 'zzlaws_internal_tangle_g2.FnLineLenIsFirstTerminator': WHATEVER THE INPUT: true; the input reads as it did. -/
def fnLineLenIsFirstTerminatorSpec : ChangeSpec := { name := "fnLineLenIsFirstTerminator", fn := fun _ => fun
  | [d1, d2] => { results := [.lit (.bool true)], args := [d1, d2] }
  | _ => none }
def fnLineLenIsFirstTerminatorRow : OpenClaim := { program := "qxb6003776a", sum := "c3486663a77ddd26fe4a452a3ad281efcb0fa3d57ce01cef377f3b68bcfedf55", func := "example.com/exact-tangle/exact-tangle/zzlaws_internal_tangle_g2.FnLineLenIsFirstTerminator", spec := "fnLineLenIsFirstTerminator", inPlace := ["internal/bytealg.IndexByte"], apart := false }
def FnLineLenIsFirstTerminatorSaid : Prop := fnLineLenIsFirstTerminatorRow.holds Try.pinned (OpenSpec.ofChange fnLineLenIsFirstTerminatorSpec)

/-- ITS FALSE NEIGHBOUR: 'it returns false'. Refute it at one input. -/
def fnLineLenIsFirstTerminatorWrong : ChangeSpec := { name := "fnLineLenIsFirstTerminator", fn := fun _ => fun
  | [d1, d2] => { results := [.lit (.bool false)], args := [d1, d2] }
  | _ => none }
def FnLineLenIsFirstTerminatorWrongFalsely : Prop := fnLineLenIsFirstTerminatorRow.holds Try.pinned (OpenSpec.ofChange fnLineLenIsFirstTerminatorWrong)

/-- 'zzlaws_internal_tangle_g2.FnEOLRoundTrip': WHATEVER THE INPUT: true; the input reads as it did. -/
def fnEOLRoundTripSpec : ChangeSpec := { name := "fnEOLRoundTrip", fn := fun _ => fun
  | [d1, d2, d3, d4] => { results := [.lit (.bool true)], args := [d1, d2, d3, d4] }
  | _ => none }
def fnEOLRoundTripRow : OpenClaim := { program := "qxb6003776a", sum := "c3486663a77ddd26fe4a452a3ad281efcb0fa3d57ce01cef377f3b68bcfedf55", func := "example.com/exact-tangle/exact-tangle/zzlaws_internal_tangle_g2.FnEOLRoundTrip", spec := "fnEOLRoundTrip", inPlace := ["internal/bytealg.IndexByte"], apart := false }
def FnEOLRoundTripSaid : Prop := fnEOLRoundTripRow.holds Try.pinned (OpenSpec.ofChange fnEOLRoundTripSpec)

/-- ITS FALSE NEIGHBOUR: 'it returns false'. Refute it at one input. -/
def fnEOLRoundTripWrong : ChangeSpec := { name := "fnEOLRoundTrip", fn := fun _ => fun
  | [d1, d2, d3, d4] => { results := [.lit (.bool false)], args := [d1, d2, d3, d4] }
  | _ => none }
def FnEOLRoundTripWrongFalsely : Prop := fnEOLRoundTripRow.holds Try.pinned (OpenSpec.ofChange fnEOLRoundTripWrong)

end Rows
end Go.Proofs.Qxb6003776a
