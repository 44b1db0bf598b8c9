/-
  The small callees: the closure, slices.IndexFunc, slices.ContainsFunc.
-/
import Derived.Test.Qxb6605534aRows
import Derived.WalkKit
import Derived.WalkSpells
import Derived.WalkLawsBesides
namespace Go.Proofs.Qxb6605534a
open Go.RowKit

theorem nz_any (a : Int) (w : World) :
    Calls Try.prog 9 #[.int .u8 a] w fun e w' => e = .returned (.bool (!(a == 0))) ∧ w' = w := by
  go_enter Try.func9, Try.ntmps9
  go_wp2
  go_ret
  exact ⟨rfl, rfl⟩

theorem index_any (g o n c : Nat) (V : Nat → Int) (w : World) (hn : n ≤ 512) (h : ∀ j, j < n → w.cell? ⟨g, o + j, none⟩ = some (.int .u8 (V j))) :
    Calls Try.prog 10 #[.slice (some ⟨g, o, none⟩) n c, .func (.func 9) #[] #[]] w fun e w' => w' = w ∧ ((e = .returned (.int .i64 (-1)) ∧ ∀ j, j < n → V j = 0) ∨ ∃ k : Nat, e = .returned (.int .i64 k) ∧ k < n ∧ V k ≠ 0) := by
  have HV : Hid (∀ j, j < n → w.cell? ⟨g, o + j, none⟩ = some (.int .u8 (V j))) := h
  clear h
  go_enter Try.func10, Try.ntmps10
  go_wp2
  go_loop [8] (fun i => ∃ k : Nat, i = .int .i64 k ∧ k ≤ n ∧ ∀ j, j < k → V j = 0) (fun i => n - (intOf i).toNat)
  case atStart => exact ⟨0, rfl, Nat.zero_le _, fun j hj => absurd hj (by omega)⟩
  case round =>
    obtain ⟨k, rfl, hk, hz⟩ := hrel
    have HZ : Hid (∀ j, j < k → V j = 0) := hz
    clear hz
    by_cases hlt : k < n
    · have hltI : (k : Int) < (n : Int) := by omega
      have hc := HV.out k hlt
      cases hb : (V k == 0) with
      | true =>
        have HE : Hid (V k = 0) := by unfold Hid; simpa using hb
        go_wp2_with fail
        refine (nz_any (V k) _).mono ?_
        rintro e w' ⟨rfl, rfl⟩
        rw [hb]
        go_wp2
        go_round
        case rel =>
          refine ⟨k + 1, by go_num, by omega, fun j hj => ?_⟩
          rcases Nat.lt_or_ge j k with h | h
          · exact HZ.out j h
          · obtain rfl : j = k := by omega
            exact HE.out
        case measure => simp [intOf]; omega
      | false =>
        have HE : Hid (V k ≠ 0) := by unfold Hid; simpa using hb
        go_wp2_with fail
        refine (nz_any (V k) _).mono ?_
        rintro e w' ⟨rfl, rfl⟩
        rw [hb]
        go_wp2
        go_ret
        exact ⟨rfl, .inr ⟨k, rfl, hlt, HE.out⟩⟩
    · obtain rfl : n = k := by omega
      go_wp2
      go_ret
      exact ⟨rfl, .inl ⟨rfl, HZ.out⟩⟩

theorem contains_any (g o n c : Nat) (V : Nat → Int) (w : World) (hn : n ≤ 512) (h : ∀ j, j < n → w.cell? ⟨g, o + j, none⟩ = some (.int .u8 (V j))) :
    Calls Try.prog 8 #[.slice (some ⟨g, o, none⟩) n c, .func (.func 9) #[] #[]] w fun e w' => w' = w ∧ ((e = .returned (.bool false) ∧ ∀ j, j < n → V j = 0) ∨ (e = .returned (.bool true) ∧ ∃ k, k < n ∧ V k ≠ 0)) := by
  have HV : Hid (∀ j, j < n → w.cell? ⟨g, o + j, none⟩ = some (.int .u8 (V j))) := h
  clear h
  go_enter Try.func8, Try.ntmps8
  go_wp2_with fail
  refine (index_any g o n c V _ hn HV.out).mono ?_
  rintro e w' ⟨rfl, (⟨rfl, h⟩ | ⟨k, rfl, hk, hv⟩)⟩
  · have HZ : Hid (∀ j, j < n → V j = 0) := h
    clear h
    go_wp2
    go_ret
    exact ⟨rfl, .inl ⟨rfl, HZ.out⟩⟩
  · have HZ : Hid (k < n ∧ V k ≠ 0) := ⟨hk, hv⟩
    have hk0 : (0 : Int) ≤ (k : Int) := by omega
    clear hk hv
    go_wp2
    go_ret
    exact ⟨rfl, .inr ⟨rfl, k, HZ.out⟩⟩
end Go.Proofs.Qxb6605534a
