/-
  No cell of these rows narrows 'for every input' (looked for: loops, veiled, ifaces, maps, wideKeys, modest, calm, conditions, laid).
  DERIVED. THE GIVEN ROWS OF THIS SEAT. 1 by the template 'for every input the law returns true; each argument reads behind the call as it read before'; 0 by the template 'total and deterministic' (their statements: Qxb6003817aTotals.lean).
  GIVEN WITH THE SEED: the statements are not yours to turn. If you find one false, say at which input.
  Laid BY PROGRAM, IN A SANDBOX (cutbox-rows.mjs): the forced cells as the released guide's own fill.sh prints them over the translation b3a3f6e39e954d10… (all of the seat's roots in one cut). By AI agents, Wed Nov 11 2026. No macro, syntax, notation, axiom, sorry.
-/
import Derived.Test.Qxb6003817aChecked
import GoSem.Claim
import GoSem.ClaimJoined
import GoSem.ClaimMapViews
import Derived.JoinedTies
import Derived.KernelRfl
namespace Go.Proofs.Qxb6003817a
/- THE CELL 'sum', in the pinned program and in every row, IS THE sha256 OF THE DUMP (.gsa) THAT Qxb6003817aProg.lean LOADS. Nothing in Lean hashes anything: it is a label: what it is worth is what the hold of that sum in a sandbox is worth. -/
noncomputable def Try.pinned : Pinned := { name := "qxb6003817a", sum := "b3a3f6e39e954d10315e3c7abeeec59e6344876ff8f4ecee69daa16561fa31ca", checked := Try.checked }
namespace Rows
def none {H : Type} : Left H := { results := [], args := [] }

/-- 'zzlaws_internal_disk_c2.PropMinHeapIsMultisetPopsLeastEnd': WHATEVER THE INPUT: true; the input reads as it did. -/
def propMinHeapIsMultisetPopsLeastEndSpec : ChangeSpec := { name := "propMinHeapIsMultisetPopsLeastEnd", fn := fun _ => fun
  | [d] => { results := [.lit (.bool true)], args := [d] }
  | _ => none }
def propMinHeapIsMultisetPopsLeastEndRow : OpenClaim := { program := "qxb6003817a", sum := "b3a3f6e39e954d10315e3c7abeeec59e6344876ff8f4ecee69daa16561fa31ca", func := "example.com/sanguine/sanguine/zzlaws_internal_disk_c2.PropMinHeapIsMultisetPopsLeastEnd", spec := "propMinHeapIsMultisetPopsLeastEnd", unfollowed := true, recurses := true, apart := false }
def PropMinHeapIsMultisetPopsLeastEndSaid : Prop := propMinHeapIsMultisetPopsLeastEndRow.holds Try.pinned (OpenSpec.ofChange propMinHeapIsMultisetPopsLeastEndSpec)

/-- ITS FALSE NEIGHBOUR: 'it returns false'. Refute it at one input. -/
def propMinHeapIsMultisetPopsLeastEndWrong : ChangeSpec := { name := "propMinHeapIsMultisetPopsLeastEnd", fn := fun _ => fun
  | [d] => { results := [.lit (.bool false)], args := [d] }
  | _ => none }
def PropMinHeapIsMultisetPopsLeastEndWrongFalsely : Prop := propMinHeapIsMultisetPopsLeastEndRow.holds Try.pinned (OpenSpec.ofChange propMinHeapIsMultisetPopsLeastEndWrong)

end Rows
end Go.Proofs.Qxb6003817a
