/-
  'trailingBits' and its export, by one contract each.
-/
import Derived.Test.Qxb6003731aRows
import Derived.Test.Qxb6003731aPlain
import Derived.WalkKit
import Derived.WalkSpells
import Derived.WalkLawsBesides
namespace Go.Proofs.Qxb6003731a
open Go.RowKit

/-- In the world w the first n bytes at the address ao are f 0, f 1, .. -/
def HasBytes (w : World) (ao : Option Addr) (n : Nat) (f : Nat → Nat) : Prop :=
  ∀ j, j < n → f j < 256 ∧ ∃ b off, ao = some ⟨b, off, none⟩ ∧ w.cell? ⟨b, off + j, none⟩ = some (.int .u8 (f j : Nat))

set_option maxHeartbeats 400000 in
theorem tb_any (ao : Option Addr) (n cap bit : Nat) (f : Nat → Nat) (w : World) (hn : n ≤ 1048576) (hc : HasBytes w ao n f) :
    Calls Try.prog 19 #[.slice ao n cap, .int .u8 bit] w fun e w' => ∃ t : Nat, e = .returned (.int .i64 t) ∧ IsTrail (fun j => bitAt f (8 * n - 1 - j)) bit (8 * n) t ∧ w' = w := by
  go_enter Try.func19, Try.ntmps19
  go_wp2
  go_loop [5, 6] (fun c i => ∃ k m : Nat, k + m = 8 * n ∧ (∀ j, j < k → bitAt f (8 * n - 1 - j) = bit) ∧ i = .int .i64 ((m : Int) - 1) ∧ c = .int .i64 k) (fun _ i => (intOf i + 1).toNat)
  case atStart => exact ⟨0, 8 * n, by omega, fun j hj => absurd hj (by omega), by go_num, rfl⟩
  case round =>
    obtain ⟨k, m, hk, hall, rfl, rfl⟩ := hrel
    have hkk : k ≤ 8388608 := by omega
    have hmm : m ≤ 8388608 := by omega
    have HK : Hid (k + m = 8 * n) := hk
    have HA : Hid (∀ j, j < k → bitAt f (8 * n - 1 - j) = bit) := hall
    clear hall
    match m, hk, HK with
    | p + 1, hk, HK =>
      have hxl : p / 8 < n := by omega
      obtain ⟨hf, b, off, hao, hcq⟩ := hc (p / 8) hxl
      subst hao
      have HB : Hid (8 * n - 1 - k = p) := by show 8 * n - 1 - k = p; omega
      have HT := fun e => bit_test (f (p / 8)) e bit hf
      have HH : Hid (∀ e, (bits BinOp.and IntKind.u8 ((f (p / 8) : Nat) / 2 ^ e) 1 == (bit : Int)) = decide (f (p / 8) / 2 ^ e % 2 = bit)) := HT
      clear hc hk HT
      go_wp2
      · have ht : (bits BinOp.and IntKind.u8 ((f (p / 8) : Nat) / 2 ^ (7 - p % 8)) 1 == (bit : Int)) = true := by assumption
        rw [HH.out] at ht
        go_round
        case rel =>
          refine ⟨k + 1, p, ?_, ?_, by go_num, by go_num⟩
          · have := HK.out; omega
          · intro j hj
            by_cases hjk : j < k
            · exact HA.out j hjk
            · obtain rfl : j = k := by omega
              rw [HB.out]
              simpa [bitAt] using ht
        case measure => simp [intOf]
      · have ht : (bits BinOp.and IntKind.u8 ((f (p / 8) : Nat) / 2 ^ (7 - p % 8)) 1 == (bit : Int)) = false := by assumption
        rw [HH.out] at ht
        go_ret
        refine ⟨k, rfl, ⟨?_, HA.out, fun _ => ?_⟩, rfl⟩
        · have := HK.out; omega
        · show bitAt f (8 * n - 1 - k) ≠ bit
          rw [HB.out]
          simpa [bitAt] using ht
    | 0, hk, HK =>
      clear hk hc
      go_wp2
      go_ret
      refine ⟨k, rfl, ⟨?_, HA.out, fun h => ?_⟩, rfl⟩
      · have := HK.out; omega
      · have := HK.out; omega

theorem ztb_any (ao : Option Addr) (n cap bit : Nat) (f : Nat → Nat) (w : World) (hn : n ≤ 1048576) (hc : HasBytes w ao n f) :
    Calls Try.prog 16 #[.slice ao n cap, .int .u8 bit] w fun e w' => ∃ t : Nat, e = .returned (.int .i64 t) ∧ IsTrail (fun j => bitAt f (8 * n - 1 - j)) bit (8 * n) t ∧ w' = w := by
  go_enter Try.func16, Try.ntmps16
  go_wp2_with (go_at_call 19; refine (tb_any ao n cap bit f w hn hc).mono ?_; rintro e w' ⟨t, rfl, ht, rfl⟩)
  go_ret
  exact ⟨t, rfl, ht, rfl⟩
end Go.Proofs.Qxb6003731a
