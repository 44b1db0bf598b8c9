/-
  'segmentName', 'checkpointName' and what law calls them by; 'zzHasPrefix'.
-/
import Derived.Test.Qxb6003817aDoorFormat
import Derived.WalkLawsBesides
namespace Go.Proofs.Qxb6003817aDoor
open Go.RowKit Go.Lib

def seg : List UInt8 := [108, 111, 103, 46]
def chk : List UInt8 := [99, 104, 101, 99, 107, 112, 111, 105, 110, 116, 46]

theorem dec_len {u : Nat} (hu : u < 18446744073709551616) : (decDigits u).length ≤ 20 := by rw [decDigits_length]; exact nDigits_le20 u hu

theorem add_seg {u : Nat} (hu : u < 18446744073709551616) (w : World) : (Op.stringOp .add ⟨#[108, 111, 103, 46]⟩ ⟨(decDigits u).toArray⟩).run Tryd.prog w = .ok (.string ⟨(seg ++ decDigits u).toArray⟩) w := by
  have h := dec_len hu
  exact run_string_add_lists (P := Tryd.prog) w seg (decDigits u) (by decide) (by omega)

theorem add_chk {u : Nat} (hu : u < 18446744073709551616) (w : World) : (Op.stringOp .add ⟨#[99, 104, 101, 99, 107, 112, 111, 105, 110, 116, 46]⟩ ⟨(decDigits u).toArray⟩).run Tryd.prog w = .ok (.string ⟨(chk ++ decDigits u).toArray⟩) w := by
  have h := dec_len hu
  exact run_string_add_lists (P := Tryd.prog) w chk (decDigits u) (by decide) (by omega)

theorem segName9 (u : Nat) (hu : u < 18446744073709551616) (w : World) (h : Glob w) :
    Calls Tryd.prog 9 #[.int .u64 u] w fun e w' => e = .returned (.string ⟨(seg ++ decDigits u).toArray⟩) ∧ Below w.heap.size w w' := by
  have hI := format_any u hu w h
  have ha := add_seg hu
  clear h hu
  go_enter Tryd.func9, Tryd.ntmps9
  go_wp2_with (go_at_call 15; refine hI.mono ?_; rintro e w' ⟨rfl, hb⟩)
  go_ret
  exact ⟨rfl, hb⟩

theorem segName (u : Nat) (hu : u < 18446744073709551616) (w : World) (h : Glob w) :
    Calls Tryd.prog 5 #[.int .u64 u] w fun e w' => e = .returned (.string ⟨(seg ++ decDigits u).toArray⟩) ∧ Below w.heap.size w w' := by
  have hI := segName9 u hu w h
  clear h hu
  go_enter Tryd.func5, Tryd.ntmps5
  go_wp2_with (go_at_call 9; refine hI.mono ?_; rintro e w' ⟨rfl, hb⟩)
  go_ret
  exact ⟨rfl, hb⟩

theorem chkName10 (u : Nat) (hu : u < 18446744073709551616) (w : World) (h : Glob w) :
    Calls Tryd.prog 10 #[.int .u64 u] w fun e w' => e = .returned (.string ⟨(chk ++ decDigits u).toArray⟩) ∧ Below w.heap.size w w' := by
  have hI := format_any u hu w h
  have ha := add_chk hu
  clear h hu
  go_enter Tryd.func10, Tryd.ntmps10
  go_wp2_with (go_at_call 15; refine hI.mono ?_; rintro e w' ⟨rfl, hb⟩)
  go_ret
  exact ⟨rfl, hb⟩

theorem chkName (u : Nat) (hu : u < 18446744073709551616) (w : World) (h : Glob w) :
    Calls Tryd.prog 6 #[.int .u64 u] w fun e w' => e = .returned (.string ⟨(chk ++ decDigits u).toArray⟩) ∧ Below w.heap.size w w' := by
  have hI := chkName10 u hu w h
  clear h hu
  go_enter Tryd.func6, Tryd.ntmps6
  go_wp2_with (go_at_call 10; refine hI.mono ?_; rintro e w' ⟨rfl, hb⟩)
  go_ret
  exact ⟨rfl, hb⟩

/-- 'zzHasPrefix' is the library's, sign for sign. -/
theorem zzHas (s p : ByteArray) (w : World) :
    Calls Tryd.prog 11 #[.string s, .string p] w fun e w' => e = .returned (.bool (hasPrefix s.data.toList p.data.toList)) ∧ w' = w := by
  rw [← Lib.hasPrefix_of_take, ← Lib.size_eq, ← Lib.size_eq]
  go_enter Tryd.func11, Tryd.ntmps11
  go_wp2
  · rename_i h
    go_ret
    refine ⟨?_, rfl⟩
    show Ending.returned (Value.bool ((s.extract 0 p.size).toList == p.toList)) = _
    rw [Lib.extract_toList, Lib.toList_data]
    simp [h]
  · rename_i h
    go_ret
    refine ⟨?_, rfl⟩
    show Ending.returned (Value.bool false) = _
    simp [h]
end Go.Proofs.Qxb6003817aDoor
