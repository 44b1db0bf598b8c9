/-
  DERIVED. GIVEN WITH THE SEED: THE CARDS: each row of Qxb6003817aDoorRows.lean that lists a variable, with what it lists TIED to the program's text (the seventh form; the later family's looks); each row that meets fmt, with fmt's text TOLD by the authors' own Lean function (tested against real Go, not proved from fmt's source: count such statements apart). THE CARD IS WHAT COUNTS. Prove the row's statement (the work); the ties are given (Qxb6003817aDoorTie.lean); close each card by the builder's one call (the guide's Derived/Test/ToyasCard.lean, 'card_holds'). Laid BY PROGRAM, IN A SANDBOX (cutbox-door.mjs). By AI agents, Wed Nov 11 2026. No macro, syntax, notation, axiom, sorry.
-/
import Derived.Test.Qxb6003817aDoorRows
import GoSem.ClaimSeven
namespace Go.Proofs.Qxb6003817aDoor
namespace Rows

/-- THE TIED CARD OF 'zzlaws_internal_disk_c2.PropParseNameInvertsNamesListStoreSorts'. -/
def propParseNameInvertsNamesListStoreSortsCard : Claim7 := { stood := { row := propParseNameInvertsNamesListStoreSortsRow, standIns := [], harness := (true, "96378ca8d336ce16736b7cc6c83dc90efc7b9366ac9d2983940126f1f63b74a8"), looks := true }, kinds := [], alts := [], laidByText := true, laidKinds := [.data, .data, .data, .sentinel, .sentinel], laidTests := true, laidLooks := .later }
def PropParseNameInvertsNamesListStoreSortsCardSaid : Prop := Claim7.holds Tryd.pinned (.plain (OpenSpec.ofChange propParseNameInvertsNamesListStoreSortsSpec)) propParseNameInvertsNamesListStoreSortsCard
end Rows
end Go.Proofs.Qxb6003817aDoor
