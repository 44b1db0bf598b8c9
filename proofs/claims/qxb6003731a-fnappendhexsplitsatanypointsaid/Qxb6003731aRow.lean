/-
  From a slice of bytes that came in (as the row's frame tells it) to 'Bytes'.
-/
import Derived.Test.Qxb6003731aCopy
import Derived.ProofKit
import Derived.OpenShut
namespace Go.Proofs.Qxb6003731a
open Go.ChangeShapes Go.WideShapes Go.ChangeAt Go.RowKit

theorem row_bytes {w : World} {a : Option Addr} {len cap : Nat} {zs : List Int}
    (h : (a = none ∧ len = 0 ∧ cap = 0 ∧ zs = []) ∨ ∃ x, a = some x ∧ len ≤ cap ∧ cap ≤ maxLen ∧ zs.length = cap ∧ (∀ i, i < zs.length → w.cell? (x.add i) = some (.int .u8 (zs.getD i 0))) ∧ ∀ n ∈ zs, (Lit.int .u8 n).wf = true) :
    ∃ l : List Nat, len = l.length ∧ len ≤ maxLen ∧ Bytes w a l := by
  rcases h with ⟨rfl, rfl, rfl, rfl⟩ | ⟨x, rfl, hl, hm, hz, hcell, hwf⟩
  · exact ⟨[], rfl, Nat.zero_le _, fun j hj => absurd hj (by simp)⟩
  · refine ⟨(zs.take len).map Int.toNat, by simp; omega, Nat.le_trans hl hm, fun j hj => ?_⟩
    have hj' : j < len := by simp at hj; omega
    have hjz : j < zs.length := by omega
    have hb := bounds_u8 (hwf zs[j] (List.getElem_mem hjz))
    have e : ((zs.take len).map Int.toNat)[j]?.getD 0 = zs[j].toNat := by
      simp [hj', hjz]
    have hc := hcell j hjz
    obtain ⟨b, off, spot⟩ := x
    have hspot : spot = none := by simpa [Addr.add] using World.cell?_spot (hcell 0 (by omega))
    subst hspot
    refine ⟨?_, b, off, rfl, ?_⟩
    · show ((zs.take len).map Int.toNat)[j]?.getD 0 < 256
      rw [e]; omega
    · show w.cell? ⟨b, off + j, none⟩ = some (.int .u8 ((((zs.take len).map Int.toNat)[j]?.getD 0 : Nat) : Int))
      rw [e, ← add_plain, hc]
      simp [hjz]
      omega

end Go.Proofs.Qxb6003731a
