/-
  FnZeroedFromComposesAsMin: the row. (The row's frame after the kit's proof-skeleton.)
-/
import Derived.Test.Qxb6605534aRows
import Derived.Test.Qxb6605534aLaw
import Derived.WalkKit
import Derived.ProofKit
import Derived.OpenShut
import Derived.ShutString
import Derived.ChangeOld
import Derived.Below
namespace Go.Proofs.Qxb6605534a.fnZeroedFromComposesAsMin
open Go.ChangeShapes Go.WideShapes Go.ChangeAt Go.RowKit
open Extern.Stop (cell)
set_option linter.unusedVariables false

theorem own : ownKnob Try.prog.godebug = none := by kernel_rfl
theorem laidOut : laidOutB Try.prog = true := by kernel_rfl

theorem below_of_grown {a b : World} (h : a.grownBy b none) : Below a.heap.size a b := ⟨h.os, h.tape, h.output, h.size, fun k hk => h.block k hk (by simp)⟩

theorem cells5 : Try.prog.cellsOf 5 = 1 := by kernel_rfl
theorem cells23 : Try.prog.cellsOf 23 = 512 := by kernel_rfl

/-- What the pointer is. -/
def Arg (w : World) (a : Option Addr) : Prop := a = none ∨ ∃ b off xs, a = some ⟨b, off, none⟩ ∧ xs.length = 512 ∧ w.rangeAt b off (List.map cell xs)

theorem walk (a : Option Addr) (f1 f2 : Int) (w : World) (h : Arg w a) :
    Calls Try.prog 3 #[.pointer a, .int .i64 f1, .int .i64 f2] w fun e w' => e = .returned (.bool true) ∧ Below w.heap.size w w' := by
  by_cases hn : f1 < 0 ∨ f2 < 0
  · exact (law_neg a f1 f2 w hn).mono fun e w' ⟨h1, h2⟩ => ⟨h1, below_of_grown h2⟩
  · obtain ⟨m1, rfl⟩ : ∃ m : Nat, f1 = m := ⟨f1.toNat, by omega⟩
    obtain ⟨m2, rfl⟩ : ∃ m : Nat, f2 = m := ⟨f2.toNat, by omega⟩
    rcases h with rfl | ⟨b, off, xs, rfl, hx, hr⟩
    · exact (law_nil m1 m2 w).mono fun e w' ⟨h1, h2⟩ => ⟨h1, below_of_grown h2⟩
    · exact (law_some b off m1 m2 xs hx w hr).mono fun e w' ⟨h1, h2⟩ => ⟨h1, below_of_grown h2⟩

theorem cell_of_wf {n : Int} (h : (Lit.int .u8 n).wf = true) : ∃ x : UInt8, Value.int .u8 n = cell x := by
  have hb := bounds_u8 h
  refine ⟨UInt8.ofNat n.toNat, ?_⟩
  have : (UInt8.ofNat n.toNat).toNat = n.toNat := by
    rw [UInt8.toNat_ofNat']
    omega
  unfold cell
  rw [this]
  have e : n = ((n.toNat : Nat) : Int) := by omega
  exact congrArg (Value.int .u8) e

theorem list_of {cs : List Value} (h : ∀ i, i < cs.length → ∃ x : UInt8, cs[i]? = some (cell x)) : ∃ xs : List UInt8, cs = xs.map cell := by
  induction cs with
  | nil => exact ⟨[], rfl⟩
  | cons c cs ih =>
    obtain ⟨x, hx⟩ := h 0 (by simp)
    obtain ⟨xs, hxs⟩ := ih (fun i hi => by
      have := h (i + 1) (by simp; omega)
      simpa using this)
    simp at hx
    exact ⟨x :: xs, by rw [hx, hxs]; rfl⟩

section
variable {H : Type} {enc : TypeId × Value → H} {w : World} {base : Nat} {spare : Nat → Bool} {held : Bool} {fuel : Nat}

theorem arr_of {cs : List Value} {y : DataW H × List MemPlace} (h : DataW.trod enc Try.prog w base spare held fuel 23 cs = some y) : ∃ xs : List UInt8, cs = xs.map cell ∧ xs.length = 512 := by
  obtain ⟨ys, m, _, _, hl, hlen, hf⟩ := DataW.trod_array Try.underlying23 h
  rw [cells23] at hl
  obtain ⟨xs, hxs⟩ := list_of (cs := cs) (fun i hi => by
    have h1 := hf i (by omega)
    rw [cells5, Nat.mul_one, List.getElem?_eq_getElem (by omega)] at h1
    obtain ⟨n, e1, _, e3⟩ := DataW.trod_int Try.underlying5 h1
    obtain ⟨x, hx⟩ := cell_of_wf e3
    refine ⟨x, ?_⟩
    rw [← hx]
    have h2 : ((cs.drop i).take 1)[0]? = some (.int .u8 n) := by rw [e1]; rfl
    rw [List.getElem?_take, if_pos (by omega), List.getElem?_drop, Nat.add_zero] at h2
    exact h2)
  exact ⟨xs, hxs, by rw [hxs, List.length_map] at hl; exact hl⟩
end

set_option maxRecDepth 100000 in
theorem lifted (os : Os) (started : os.Started) (H : Type) (enc : TypeId × Value → H) :
    ReturnsInHanded {} Try.checked os 3 .any (Rows.fnZeroedFromComposesAsMinSpec.pre6 enc Try.prog Try.f3 Rows.fnZeroedFromComposesAsMinRow.domain false) (Rows.fnZeroedFromComposesAsMinSpec.post enc Try.prog Try.f3 false true false false) := by
  refine returnsInHanded_of_change (C := Try.checked) own started (by kernel_rfl) Try.func3
    (ChangeSpec.witness6 (enc := enc) (C := Try.checked) false ⟨#[], #[.pointer none, .int .i64 0, .int .i64 0], []⟩ 8 (by kernel_rfl) (by kernel_rfl) (by kernel_rfl) (by kernel_rfl)) ?_
  intro W base args ds gs before hval0 hW hcnd _
  have hval : ∀ (j : Nat) t v, Try.f3.params[j]? = some t → args[j]? = some v → Value.okWide Try.prog W .any base t v := hval0
  have hW' := hW
  obtain ⟨p, q, hA0, hV, rfl, hfz, hnd⟩ := hW
  have hA : DataW.TrodAll enc Try.prog W 0 (fun _ => true) true Try.f3.params.toList args.toList ds p := hA0
  rw [Try.params3] at hA hval
  obtain ⟨v0, vs0, d0, ds0, p0, q0, hargs, rfl, rfl, h0, r0⟩ := trodAll_cons hA
  obtain ⟨v1, vs1, d1, ds1, p1, q1, hargs1, rfl, rfl, h1, r1⟩ := trodAll_cons r0
  obtain ⟨v2, vs2, d2, ds2, p2, q2, hargs2, rfl, rfl, h2, r2⟩ := trodAll_cons r1
  obtain ⟨rfl, rfl, rfl⟩ := trodAll_nil r2
  subst hargs2 hargs1
  obtain rfl : args = #[v0, v1, v2] := by cases args; simp_all
  obtain ⟨rfl, rfl⟩ := trodVars_none hV
  have k0 := h0
  have k1 := h1
  have k2 := h2
  have lt0 : ∀ x ∈ p0, x.block < W.heap.size := by obtain ⟨m, hm⟩ := k0; exact DataW.trod_lt m _ _ _ hm
  have lt1 : ∀ x ∈ p1, x.block < W.heap.size := by obtain ⟨m, hm⟩ := k1; exact DataW.trod_lt m _ _ _ hm
  have lt2 : ∀ x ∈ p2, x.block < W.heap.size := by obtain ⟨m, hm⟩ := k2; exact DataW.trod_lt m _ _ _ hm
  obtain ⟨a0, rfl, hArg⟩ : ∃ a0, v0 = .pointer a0 ∧ Arg W a0 := by
    rcases open_ptr Try.underlying22 (by rw [cells23]; omega) (hval 0 22 v0 rfl rfl) h0 with ⟨rfl, _, _⟩ | ⟨b, off, cs, y, fuel, rfl, _, _, hl, hc, hy⟩
    · exact ⟨none, rfl, .inl rfl⟩
    · obtain ⟨xs, rfl, hx⟩ := arr_of hy
      refine ⟨_, rfl, .inr ⟨b, off, xs, rfl, hx, fun j v hv => ?_⟩⟩
      have hj : j < 512 := by have := (List.getElem?_eq_some_iff.1 hv).1; rw [List.length_map, hx] at this; exact this
      rw [hc j (by rw [cells23]; exact hj)]
      exact hv
  obtain ⟨i1, rfl⟩ := okWide_int Try.underlying2 (hval 1 2 v1 rfl rfl)
  obtain ⟨i2, rfl⟩ := okWide_int Try.underlying2 (hval 2 2 v2 rfl rfl)
  clear hA0 hval0
  refine (walk a0 i1 i2 W hArg).mono fun e W' ⟨he, bel⟩ => ?_
  subst he
  exact ⟨_, rfl, _, _, _, [], _, [], hW', trodAll_mk1 (shut_bool Try.underlying4 _), (trodAll_cons_mk (Below.trod laidOut (by kernel_rfl) (of_decide_eq_true (by kernel_rfl)) k0 bel lt0) (trodAll_cons_mk (Below.trod laidOut (by kernel_rfl) (of_decide_eq_true (by kernel_rfl)) k1 bel lt1) (trodAll_cons_mk (Below.trod laidOut (by kernel_rfl) (of_decide_eq_true (by kernel_rfl)) k2 bel lt2) trodAll_mk0))), rfl, bel.frame _, fun h => by cases h⟩

theorem over : Rows.fnZeroedFromComposesAsMinRow.holds Try.pinned (OpenSpec.ofChange Rows.fnZeroedFromComposesAsMinSpec) :=
  OpenClaim.holds_of_wide 3 Try.f3 rfl rfl rfl rfl rfl rfl rfl ⟨rfl, rfl, rfl, rfl, rfl⟩ rfl rfl rfl rfl rfl (by kernel_rfl) Try.func3 (by kernel_rfl)
    (of_decide_eq_true (by kernel_rfl)) (by unfold Func.isWrapper; first | (rw [if_pos (by decide +kernel)]; kernel_rfl) | (rw [if_neg (by decide +kernel)]; exact ⟨rfl, rfl⟩))
    (fun os started H enc _ => lifted os started H enc)

/-- ████ THE STATEMENT ████ -/
theorem proved : Rows.FnZeroedFromComposesAsMinSaid := over
end Go.Proofs.Qxb6605534a.fnZeroedFromComposesAsMin
