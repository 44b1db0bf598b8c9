/-
  FnTrailingBitsArithmetic: the walk and the row. (The row's frame was written by the kit's proof-skeleton.)
-/
import Derived.Test.Qxb6003731aRows
import Derived.Test.Qxb6003731aBe
import Derived.WalkKit
import Derived.ProofKit
import Derived.OpenShut
import Derived.ShutString
namespace Go.Proofs.Qxb6003731a.fnTrailingBitsArithmetic
open Go.ChangeShapes Go.WideShapes Go.ChangeAt Go.RowKit
open Go.ChangeMaps (open_string shut_string)
set_option linter.unusedVariables false      -- a walk need not use every 'w<i>' (that an integer argument fits its kind)

theorem own : ownKnob Try.prog.godebug = none := by kernel_rfl

/-! ### STEP 1: THE WALK: the Go text returns true. 'Grown w w'': the world has at most new blocks (Derived/RowKit3.lean). Part the cases AHEAD of 'go_enter' where a test parts the walk; take each callee by a contract of your own. -/
theorem odd_test (x p : Nat) (hx : x ≤ 18446744073709551615) (h : x / p % 2 = 1) : ((IntKind.u64.wrap ((x : Int) / (p : Int))).tmod 2 != 1) = false := by
  have h1 : x / p ≤ x := Nat.div_le_self _ _
  have h2 : ((x : Int) / (p : Int)) = ((x / p : Nat) : Int) := by simp
  rw [h2]
  generalize x / p = q at h h1
  rw [IntKind.wrap_u64, show (q : Int) % 18446744073709551616 = (q : Int) by omega, Int.tmod_eq_emod_of_nonneg (by omega)]
  simp
  omega

set_option maxHeartbeats 1000000 in
theorem walk_mid (x : Nat) (h0 : 0 < x) (hx : x < 18446744073709551615) (w : World) :
    Calls Try.prog 6 #[.int .u64 (x : Nat)] w fun e w' => e = .returned (.bool true) ∧ Grown w w' := by
  go_enter Try.func6, Try.ntmps6
  go_wp2_with fail
  refine (be_any x (by omega) w).mono ?_
  rintro e w1 ⟨rfl, hb1, hg1⟩
  go_wp2_with fail
  refine (ztb_any _ 8 8 0 (beF x) w1 (by decide) hb1).mono ?_
  rintro e w2 ⟨t0, rfl, ht0, rfl⟩
  go_wp2_with fail
  refine (be_any x (by omega) _).mono ?_
  rintro e w3 ⟨rfl, hb3, hg3⟩
  go_wp2_with fail
  refine (ztb_any _ 8 8 1 (beF x) w3 (by decide) hb3).mono ?_
  rintro e w4 ⟨t1, rfl, ht1, rfl⟩
  obtain ⟨hlt, hmod, hodd⟩ := run_pos (by omega) (by omega) (run_of_be ht0)
  obtain ⟨p, hp⟩ : ∃ p : Nat, p = 2 ^ t0 := ⟨_, rfl⟩
  have hp0 : 0 < p := by rw [hp]; exact Nat.two_pow_pos _
  have hpl : p ≤ 9223372036854775808 := by rw [hp]; exact Nat.le_trans (Nat.pow_le_pow_right (by decide) (show t0 ≤ 63 by omega)) (by decide)
  rw [← hp] at hmod hodd
  have hwp : IntKind.u64.wrap (2 ^ t0) = (p : Int) := by
    rw [IntKind.wrap_u64, show ((2 : Int) ^ t0) = (p : Int) by rw [hp]; simp]
    omega
  have hto : ((IntKind.u64.wrap ((x : Int) / (p : Int))).tmod 2 != 1) = false := odd_test x p (by omega) hodd
  have h63 : (t0 : Int) ≤ 63 := by omega
  have HS : Hid (∀ t, Run (x + 1) 0 t → t = t1) := fun t h => run_succ hx (run_of_be ht1) h
  have hwx : IntKind.u64.wrap ((x : Int) + 1) = ((x + 1 : Nat) : Int) := by
    rw [IntKind.wrap_u64]; omega
  clear ht0 ht1 hp hb1 hb3
  go_wp2_with fail
  refine (be_any (x + 1) (by omega) _).mono ?_
  rintro e w5 ⟨rfl, hb5, hg5⟩
  go_wp2_with fail
  refine (ztb_any _ 8 8 0 (beF (x + 1)) w5 (by decide) hb5).mono ?_
  rintro e w6 ⟨t2, rfl, ht2, rfl⟩
  obtain rfl := HS.out t2 (run_of_be ht2)
  clear ht2 HS hb5
  go_wp2_with fail
  go_ret
  exact ⟨rfl, grown_trans (grown_trans hg1 hg3) hg5⟩

set_option maxHeartbeats 1000000 in
theorem walk_max (w : World) :
    Calls Try.prog 6 #[.int .u64 18446744073709551615] w fun e w' => e = .returned (.bool true) ∧ Grown w w' := by
  obtain ⟨x, hx⟩ : ∃ x : Nat, x = 18446744073709551615 := ⟨_, rfl⟩
  rw [show (18446744073709551615 : Int) = (x : Int) by rw [hx]; rfl]
  have HX : Hid (x = 18446744073709551615) := hx
  have hx1 : x ≤ 18446744073709551615 := by omega
  have hx2 : ((x : Int) == 18446744073709551615) = true := by rw [hx]; decide
  have h0 : 0 < x := by omega
  clear hx
  go_enter Try.func6, Try.ntmps6
  go_wp2_with fail
  refine (be_any x (by omega) w).mono ?_
  rintro e w1 ⟨rfl, hb1, hg1⟩
  go_wp2_with fail
  refine (ztb_any _ 8 8 0 (beF x) w1 (by decide) hb1).mono ?_
  rintro e w2 ⟨t0, rfl, ht0, rfl⟩
  go_wp2_with fail
  refine (be_any x (by omega) _).mono ?_
  rintro e w3 ⟨rfl, hb3, hg3⟩
  go_wp2_with fail
  refine (ztb_any _ 8 8 1 (beF x) w3 (by decide) hb3).mono ?_
  rintro e w4 ⟨t1, rfl, ht1, rfl⟩
  obtain ⟨hlt, hmod, hodd⟩ := run_pos (by omega) (by omega) (run_of_be ht0)
  obtain ⟨p, hp⟩ : ∃ p : Nat, p = 2 ^ t0 := ⟨_, rfl⟩
  have hp0 : 0 < p := by rw [hp]; exact Nat.two_pow_pos _
  have hpl : p ≤ 9223372036854775808 := by rw [hp]; exact Nat.le_trans (Nat.pow_le_pow_right (by decide) (show t0 ≤ 63 by omega)) (by decide)
  rw [← hp] at hmod hodd
  have hwp : IntKind.u64.wrap (2 ^ t0) = (p : Int) := by
    rw [IntKind.wrap_u64, show ((2 : Int) ^ t0) = (p : Int) by rw [hp]; simp]
    omega
  have hto : ((IntKind.u64.wrap ((x : Int) / (p : Int))).tmod 2 != 1) = false := odd_test x p (by omega) hodd
  have h63 : (t0 : Int) ≤ 63 := by omega
  obtain rfl := run_max (by have h := run_of_be ht1; rw [HX.out] at h; exact h)
  clear ht0 ht1 hp hb1 hb3
  go_wp2_with fail
  go_ret
  exact ⟨rfl, grown_trans hg1 hg3⟩

set_option maxHeartbeats 1000000 in
theorem walk_zero (w : World) :
    Calls Try.prog 6 #[.int .u64 ((0 : Nat) : Int)] w fun e w' => e = .returned (.bool true) ∧ Grown w w' := by
  go_enter Try.func6, Try.ntmps6
  go_wp2_with fail
  refine (be_any 0 (by omega) w).mono ?_
  rintro e w1 ⟨rfl, hb1, hg1⟩
  go_wp2_with fail
  refine (ztb_any _ 8 8 0 (beF 0) w1 (by decide) hb1).mono ?_
  rintro e w2 ⟨t0, rfl, ht0, rfl⟩
  go_wp2_with fail
  refine (be_any 0 (by omega) _).mono ?_
  rintro e w3 ⟨rfl, hb3, hg3⟩
  go_wp2_with fail
  refine (ztb_any _ 8 8 1 (beF 0) w3 (by decide) hb3).mono ?_
  rintro e w4 ⟨t1, rfl, ht1, rfl⟩
  obtain rfl := run_zero (run_of_be ht0)
  have HS : Hid (∀ t, Run (0 + 1) 0 t → t = t1) := fun t h => run_succ (by decide) (run_of_be ht1) h
  clear ht0 ht1 hb1 hb3
  go_wp2_with fail
  refine (be_any (0 + 1) (by omega) _).mono ?_
  rintro e w5 ⟨rfl, hb5, hg5⟩
  go_wp2_with fail
  refine (ztb_any _ 8 8 0 (beF (0 + 1)) w5 (by decide) hb5).mono ?_
  rintro e w6 ⟨t2, rfl, ht2, rfl⟩
  obtain rfl := HS.out t2 (run_of_be ht2)
  clear ht2 HS hb5
  go_wp2_with fail
  go_ret
  exact ⟨rfl, grown_trans (grown_trans hg1 hg3) hg5⟩

theorem walk (a0 : Int) (w0 : (Lit.int .u64 a0).wf = true) (w : World) :
    Calls Try.prog 6 #[.int .u64 a0] w fun e w' => e = .returned (.bool true) ∧ Grown w w' := by
  have hb := bounds_u64 w0
  obtain ⟨x, rfl⟩ : ∃ x : Nat, a0 = x := ⟨a0.toNat, by omega⟩
  by_cases h0 : x = 0
  · subst h0; exact walk_zero w
  · by_cases hm : x = 18446744073709551615
    · subst hm; exact walk_max w
    · exact walk_mid x (by omega) (by omega) w

/-! ### THE ROW's STEP: WRITTEN OUT: LEAVE IT -/
set_option maxRecDepth 100000 in
theorem lifted (os : Os) (started : os.Started) (H : Type) (enc : TypeId × Value → H) :
    ReturnsInHanded {} Try.checked os 6 .any (Rows.fnTrailingBitsArithmeticSpec.pre6 enc Try.prog Try.f6 Rows.fnTrailingBitsArithmeticRow.domain false) (Rows.fnTrailingBitsArithmeticSpec.post enc Try.prog Try.f6 false true false false) := by
  refine returnsInHanded_of_change (C := Try.checked) own started (by kernel_rfl) Try.func6
    (ChangeSpec.witness6 (enc := enc) (C := Try.checked) false ⟨#[], #[.int .u64 0], []⟩ 8 (by kernel_rfl) (by kernel_rfl) (by kernel_rfl) (by kernel_rfl)) ?_
  intro W base args ds gs before hval0 hW hcnd _
  have hval : ∀ (j : Nat) t v, Try.f6.params[j]? = some t → args[j]? = some v → Value.okWide Try.prog W .any base t v := hval0
  have hW' := hW
  obtain ⟨p, q, hA0, hV, rfl, hfz, hnd⟩ := hW
  have hA : DataW.TrodAll enc Try.prog W 0 (fun _ => true) true Try.f6.params.toList args.toList ds p := hA0
  rw [Try.params6] at hA hval
  obtain ⟨v0, vs0, d0, ds0, p0, q0, hargs, rfl, rfl, h0, r0⟩ := trodAll_cons hA
  obtain ⟨rfl, rfl, rfl⟩ := trodAll_nil r0
  obtain rfl : args = #[v0] := by cases args; simp_all
  obtain ⟨rfl, rfl⟩ := trodVars_none hV
  obtain ⟨a0, rfl, rfl, rfl, w0⟩ := open_int Try.underlying31 (hval 0 31 v0 rfl rfl) h0
  clear hA0 hval0
  simp only [List.append_nil] at hW'
  refine (walk a0 w0 W).mono fun e W' ⟨he, hg⟩ => ?_
  subst he
  exact ⟨_, rfl, post_of_same (pa := []) (pv := []) hW' (fun _ _ _ => (trodAll_cons_mk (shut_bool Try.underlying4 _) trodAll_mk0)) (fun sp _ => (trodAll_cons_mk (shut_int Try.underlying31 w0) trodAll_mk0)) (fun _ _ => rfl) rfl
    (hg.frame _) hg.2.1 (ok_one (by kernel_rfl) rfl (okWide_bool_mk Try.underlying4 _))⟩

theorem over : Rows.fnTrailingBitsArithmeticRow.holds Try.pinned (OpenSpec.ofChange Rows.fnTrailingBitsArithmeticSpec) :=
  OpenClaim.holds_of_wide 6 Try.f6 rfl rfl rfl rfl rfl rfl rfl ⟨rfl, rfl, rfl, rfl, rfl⟩ rfl rfl rfl rfl rfl (by kernel_rfl) Try.func6 (by kernel_rfl)
    (of_decide_eq_true (by kernel_rfl)) (by unfold Func.isWrapper; first | (rw [if_pos (by decide +kernel)]; kernel_rfl) | (rw [if_neg (by decide +kernel)]; exact ⟨rfl, rfl⟩))
    (fun os started H enc _ => lifted os started H enc)

/-- ████ THE STATEMENT ████ -/
theorem proved : Rows.FnTrailingBitsArithmeticSaid :=
  over
end Go.Proofs.Qxb6003731a.fnTrailingBitsArithmetic
