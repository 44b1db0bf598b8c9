/-
  The small callees of the heap's law.
-/
import Derived.Test.Qxb6003817aRows
import Derived.WalkKit
import Derived.WalkSpells
import Derived.WalkLawsBesides
import Derived.Deep.RegionHeld3
import Derived.Deep.AppendLies
import Derived.BigRegion
import Derived.BigQuiet
namespace Go.Proofs.Qxb6003817a
open Go.RowKit

/-- A rider: end, n, sum, crc. -/
abbrev Rid := Int × Int × Int × Int
/-- Its cells. -/
def rc (r : Rid) : Array Value := #[.int .i64 r.1, .int .u32 r.2.1, .int .u32 r.2.2.1, .int .u32 r.2.2.2]
abbrev ra (r : Rid) : Value := .agg #[.int .i64 r.1, .int .u32 r.2.1, .int .u32 r.2.2.1, .int .u32 r.2.2.2]

theorem before_any (r o : Rid) (w : World) :
    Calls Try.prog 17 #[ra r, ra o] w fun e w' => e = .returned (.bool (decide (r.1 < o.1))) ∧ w' = (w.alloc (.cells (rc r) 33)).alloc (.cells (rc o) 33) := by
  go_enter Try.func17, Try.ntmps17
  go_wp2
  go_ret
  exact ⟨rfl, rfl⟩

theorem zbefore_any (r o : Rid) (w : World) :
    Calls Try.prog 15 #[ra r, ra o] w fun e w' => e = .returned (.bool (decide (r.1 < o.1))) ∧ w' = (((w.alloc (.cells (rc r) 33)).alloc (.cells (rc o) 33)).alloc (.cells (rc r) 33)).alloc (.cells (rc o) 33) := by
  go_enter Try.func15, Try.ntmps15
  go_wp2_with fail
  refine (before_any r o _).mono ?_
  rintro e w' ⟨rfl, rfl⟩
  go_wp2
  go_ret
  exact ⟨rfl, rfl⟩

theorem new_any (a b c d : Int) (w : World) :
    Calls Try.prog 6 #[.int .i64 a, .int .u32 b, .int .u32 c, .int .u32 d] w fun e w' => e = .returned (ra (a, b, c, d)) ∧ w' = w.alloc (.cells (rc (a, b, c, d)) 33) := by
  go_enter Try.func6, Try.ntmps6
  go_wp2
  exact bodyPost_ret (v := ra (a, b, c, d)) (by simp [results, Try.results6, go_sem]) rfl ⟨rfl, rfl⟩

theorem fields_any (r : Rid) (w : World) :
    Calls Try.prog 7 #[ra r] w fun e w' => e = .returned (.tuple #[.int .i64 r.1, .int .u32 r.2.1, .int .u32 r.2.2.1, .int .u32 r.2.2.2]) ∧ w' = (w.alloc (.cells (rc r) 33)).drew := by
  go_enter Try.func7, Try.ntmps7
  go_wp2
  go_region
  go_wp2
  refine bodyPost_ret (v := .tuple #[.int .i64 r.1, .int .u32 r.2.1, .int .u32 r.2.2.1, .int .u32 r.2.2.2]) (by simp [results, Try.results7, go_sem]) rfl ⟨rfl, rfl⟩
end Go.Proofs.Qxb6003817a
