/-
  PropParseNameInvertsNamesListStoreSorts: the tied card, out of the row and the given tie (the frame after the kit's worked card).
-/
import Derived.Test.Qxb6003817aDoorRow
import Derived.Test.Qxb6003817aDoorTie
import Derived.Test.Qxb6003817aDoorCards
import Derived.SevenTiedAt
namespace Go.Proofs.Qxb6003817aDoor.propParseNameInvertsNamesListStoreSorts
open Go

/-- ████ THE STATEMENT ████ -/
theorem proved : Rows.PropParseNameInvertsNamesListStoreSortsCardSaid :=
  Claim7.holds_tied_plain_at .later [] [.data, .data, .data, .sentinel, .sentinel] true Rows.propParseNameInvertsNamesListStoreSortsCard.stood.harness true
    over (fun _ h => by cases h) (by kernel_rfl) (fun _ h => by cases h) propParseNameInvertsNamesListStoreSorts_row_tie rfl ⟨rfl, rfl⟩ (by kernel_rfl) rfl
    (fun f fn hf hfn => by
      obtain rfl : f = 3 := Option.some.inj ((show Tryd.prog.funcNamed Rows.propParseNameInvertsNamesListStoreSortsRow.func = some 3 by kernel_rfl).symm.trans hf) |>.symm
      obtain rfl : fn = Tryd.f3 := (Option.some.inj (Tryd.func3.symm.trans hfn)).symm
      exact ⟨by kernel_rfl, fun j t ht => by
        rw [Tryd.params3] at ht
        have h3 : t = 22 ∨ t = 9 := by
          rcases j with _ | _ | j
          · exact .inl (by simpa using ht.symm)
          · exact .inr (by simpa using ht.symm)
          · simp at ht
        rcases h3 with rfl | rfl
        · exact (show Tryd.prog.wantsStandIn 22 = false by kernel_rfl)
        · exact (show Tryd.prog.wantsStandIn 9 = false by kernel_rfl)⟩)
    (by kernel_rfl)
end Go.Proofs.Qxb6003817aDoor.propParseNameInvertsNamesListStoreSorts
