/-
  No cell of these rows narrows 'for every input' (looked for: loops, veiled, ifaces, maps, wideKeys, modest, calm, conditions, laid).
  DERIVED. THE GIVEN ROWS OF THIS SEAT. 1 by the template 'for every input the law returns true; each argument reads behind the call as it read before'; 0 by the template 'total and deterministic' (their statements: Qxb6605534aTotals.lean).
  GIVEN WITH THE SEED: the statements are not yours to turn. If you find one false, say at which input.
  Laid BY PROGRAM, IN A SANDBOX (cutbox-rows.mjs): the forced cells as the released guide's own fill.sh prints them over the translation 1ced24a9d0923ddc… (all of the seat's roots in one cut). By AI agents, Wed Nov 11 2026. No macro, syntax, notation, axiom, sorry.
-/
import Derived.Test.Qxb6605534aChecked
import GoSem.Claim
import GoSem.ClaimJoined
import GoSem.ClaimMapViews
import Derived.JoinedTies
import Derived.KernelRfl
namespace Go.Proofs.Qxb6605534a
/- THE CELL 'sum', in the pinned program and in every row, IS THE sha256 OF THE DUMP (.gsa) THAT Qxb6605534aProg.lean LOADS. Nothing in Lean hashes anything: it is a label: what it is worth is what the hold of that sum in a sandbox is worth. -/
noncomputable def Try.pinned : Pinned := { name := "qxb6605534a", sum := "1ced24a9d0923ddc3b7b5406c4ca32c8dd30081a33c25195572a1a1867f9f3b8", checked := Try.checked }
namespace Rows
def none {H : Type} : Left H := { results := [], args := [] }

/-- 'zzlaws_powercut_b1.FnZeroedFromComposesAsMin': WHATEVER THE INPUT: true; the input reads as it did. -/
def fnZeroedFromComposesAsMinSpec : ChangeSpec := { name := "fnZeroedFromComposesAsMin", fn := fun _ => fun
  | [d1, d2, d3] => { results := [.lit (.bool true)], args := [d1, d2, d3] }
  | _ => none }
def fnZeroedFromComposesAsMinRow : OpenClaim := { program := "qxb6605534a", sum := "1ced24a9d0923ddc3b7b5406c4ca32c8dd30081a33c25195572a1a1867f9f3b8", func := "example.com/palimpsest/palimpsest/zzlaws_powercut_b1.FnZeroedFromComposesAsMin", spec := "fnZeroedFromComposesAsMin", unfollowed := true, recurses := true, apart := false }
def FnZeroedFromComposesAsMinSaid : Prop := fnZeroedFromComposesAsMinRow.holds Try.pinned (OpenSpec.ofChange fnZeroedFromComposesAsMinSpec)

/-- ITS FALSE NEIGHBOUR: 'it returns false'. Refute it at one input. -/
def fnZeroedFromComposesAsMinWrong : ChangeSpec := { name := "fnZeroedFromComposesAsMin", fn := fun _ => fun
  | [d1, d2, d3] => { results := [.lit (.bool false)], args := [d1, d2, d3] }
  | _ => none }
def FnZeroedFromComposesAsMinWrongFalsely : Prop := fnZeroedFromComposesAsMinRow.holds Try.pinned (OpenSpec.ofChange fnZeroedFromComposesAsMinWrong)

end Rows
end Go.Proofs.Qxb6605534a
