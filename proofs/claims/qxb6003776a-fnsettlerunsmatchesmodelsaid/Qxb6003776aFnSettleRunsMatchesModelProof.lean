/-
  FnSettleRunsMatchesModel: the row. (The row's frame after the kit's proof-skeleton.)
-/
import Derived.Test.Qxb6003776aRows
import Derived.Test.Qxb6003776aMain
import Derived.Test.Qxb6003776aEnds
import Derived.WalkKit
import Derived.ProofKit
import Derived.OpenShut
import Derived.ShutString
import Derived.ChangeOld
import Derived.Below
import Derived.Deep.Slices
namespace Go.Proofs.Qxb6003776a.fnSettleRunsMatchesModel
open Go.ChangeShapes Go.WideShapes Go.ChangeAt Go.RowKit
set_option linter.unusedVariables false

theorem own : ownKnob Try.prog.godebug = none := by kernel_rfl
theorem laidOut : laidOutB Try.prog = true := by kernel_rfl

def boolOf : Value → Bool | .bool b => b | _ => false

theorem cells_of {w : World} {x : Addr} {n : Nat} {V : Nat → Value} (h : ∀ j, j < n → w.cell? (x.add j) = some (V j)) : Cells w (some x) n V := by
  intro j hj
  obtain ⟨b, off, spot⟩ := x
  have hspot : spot = none := by simpa [Addr.add] using World.cell?_spot (h 0 (by omega))
  subst hspot
  exact ⟨b, off, rfl, by rw [← add_plain]; exact h j hj⟩

theorem cells_of_ints {w : World} {x : Addr} {len cap : Nat} {k : IntKind} {zs : List Int} (hl : len ≤ cap) (hz : zs.length = cap) (h : ∀ i, i < zs.length → w.cell? (x.add i) = some (.int k (zs.getD i 0))) : Cells w (some x) len (fun j => .int k (zs.getD j 0)) :=
  cells_of (fun j hj => h j (by omega))

theorem wf_getD {k : IntKind} {zs : List Int} (h0 : (Lit.int k 0).wf = true) (h : ∀ n ∈ zs, (Lit.int k n).wf = true) (j : Nat) : (Lit.int k (zs.getD j 0)).wf = true := by
  by_cases hj : j < zs.length
  · have e : zs.getD j 0 = zs[j] := by simp [hj]
    rw [e]
    exact h _ (List.getElem_mem hj)
  · have e : zs.getD j 0 = 0 := by simp [hj]
    rw [e]
    exact h0

theorem cells_addr {w : World} {a : Option Addr} {n : Nat} {V : Nat → Value} (h : Cells w a n V) (hn : 0 < n) : ∃ b off, a = some ⟨b, off, none⟩ := by
  obtain ⟨b, off, h1, _⟩ := h 0 hn
  exact ⟨b, off, h1⟩

theorem walk (a0 a1 a2 a3 : Option Addr) (len0 len1 len2 len3 cap0 cap1 cap2 cap3 : Nat) (f0 f1 : Nat → Int) (f2 : Nat → Bool) (f3 : Nat → Int) (w : World)
    (m0 : len0 ≤ maxLen) (m1 : len1 ≤ maxLen) (m2 : len2 ≤ maxLen) (m3 : len3 ≤ maxLen) (b3 : ∀ j, (Lit.int .i32 (f3 j)).wf = true)
    (w0 : Cells w a0 len0 (fun j => .int .i64 (f0 j))) (w1 : Cells w a1 len1 (fun j => .int .i64 (f1 j))) (w2 : Cells w a2 len2 (fun j => .bool (f2 j))) (w3 : Cells w a3 len3 (fun j => .int .i32 (f3 j))) :
    Calls Try.prog 3 #[.slice a0 len0 cap0, .slice a1 len1 cap1, .slice a2 len2 cap2, .slice a3 len3 cap3] w fun e w' => e = .returned (.bool true) ∧ Below w.heap.size w w' := by
  by_cases h : 1048576 < len0 + len1 + len2 + len3
  · exact huge_any a0 a1 a2 a3 len0 len1 len2 len3 cap0 cap1 cap2 cap3 w m0 m1 m2 m3 h
  · by_cases h2 : 1048576 < 8 * len0 + 8 * len1 + len2 + 4 * len3 ∨ len1 ≠ len0 ∨ len2 ≠ len0 ∨ len3 ≠ len0
    · exact odd_any a0 a1 a2 a3 len0 len1 len2 len3 cap0 cap1 cap2 cap3 w (by omega) h2
    · obtain rfl : len1 = len0 := by omega
      obtain rfl : len2 = len1 := by omega
      obtain rfl : len3 = len2 := by omega
      by_cases hz : len3 = 0
      · subst hz
        exact main_zero a0 a1 a2 a3 cap0 cap1 cap2 cap3 w
      · obtain ⟨b0, o0, rfl⟩ := cells_addr w0 (by omega)
        obtain ⟨b1, o1, rfl⟩ := cells_addr w1 (by omega)
        obtain ⟨b2, o2, rfl⟩ := cells_addr w2 (by omega)
        obtain ⟨b4, o3, rfl⟩ := cells_addr w3 (by omega)
        exact main_pos b0 o0 b1 o1 b2 o2 b4 o3 len3 cap0 cap1 cap2 cap3 f0 f1 f2 f3 w (by omega) (by omega) (fun j => bounds_i32 (b3 j)) w0 w1 w2 w3

set_option maxRecDepth 100000 in
theorem lifted (os : Os) (started : os.Started) (H : Type) (enc : TypeId × Value → H) :
    ReturnsInHanded {} Try.checked os 3 .any (Rows.fnSettleRunsMatchesModelSpec.pre6 enc Try.prog Try.f3 Rows.fnSettleRunsMatchesModelRow.domain false) (Rows.fnSettleRunsMatchesModelSpec.post enc Try.prog Try.f3 false true false false) := by
  refine returnsInHanded_of_change (C := Try.checked) own started (by kernel_rfl) Try.func3
    (ChangeSpec.witness6 (enc := enc) (C := Try.checked) false ⟨#[], #[.slice none 0 0, .slice none 0 0, .slice none 0 0, .slice none 0 0], []⟩ 8 (by kernel_rfl) (by kernel_rfl) (by kernel_rfl) (by kernel_rfl)) ?_
  intro W base args ds gs before hval0 hW hcnd _
  have hval : ∀ (j : Nat) t v, Try.f3.params[j]? = some t → args[j]? = some v → Value.okWide Try.prog W .any base t v := hval0
  have hW' := hW
  obtain ⟨p, q, hA0, hV, rfl, hfz, hnd⟩ := hW
  have hA : DataW.TrodAll enc Try.prog W 0 (fun _ => true) true Try.f3.params.toList args.toList ds p := hA0
  rw [Try.params3] at hA hval
  obtain ⟨v0, vs0, d0, ds0, p0, q0, hargs, rfl, rfl, h0, r0⟩ := trodAll_cons hA
  obtain ⟨v1, vs1, d1, ds1, p1, q1, rfl, rfl, rfl, h1, r1⟩ := trodAll_cons r0
  obtain ⟨v2, vs2, d2, ds2, p2, q2, rfl, rfl, rfl, h2, r2⟩ := trodAll_cons r1
  obtain ⟨v3, vs3, d3, ds3, p3, q3, rfl, rfl, rfl, h3, r3⟩ := trodAll_cons r2
  obtain ⟨rfl, rfl, rfl⟩ := trodAll_nil r3
  obtain rfl : args = #[v0, v1, v2, v3] := by cases args; simp_all
  obtain ⟨rfl, rfl⟩ := trodVars_none hV
  obtain ⟨a0, len0, cap0, rfl⟩ := okWide_slice Try.underlying22 (hval 0 22 v0 rfl rfl)
  have k0 := h0
  have lt0 : ∀ x ∈ p0, x.block < W.heap.size := by obtain ⟨m, hm⟩ := k0; exact DataW.trod_lt m _ _ _ hm
  obtain ⟨f0, w0, m0, b0⟩ : ∃ f : Nat → Int, Cells W a0 len0 (fun j => .int .i64 (f j)) ∧ len0 ≤ maxLen ∧ ∀ j, (Lit.int .i64 (f j)).wf = true := by
    obtain ⟨fuel, hf⟩ := h0
    rcases open_ints Try.underlying22 Try.underlying3 (by kernel_rfl) hf with ⟨hcs, _⟩ | ⟨x, l, c, zs, hcs, _, hl, hm, hz, _, hcell, hwz⟩
    · simp [Value.cells] at hcs
      obtain ⟨rfl, rfl, rfl⟩ := hcs
      exact ⟨fun _ => 0, fun j hj => absurd hj (by omega), Nat.zero_le _, fun _ => (by decide : (Lit.int .i64 0).wf = true)⟩
    · simp [Value.cells] at hcs
      obtain ⟨rfl, rfl, rfl⟩ := hcs
      exact ⟨fun j => zs.getD j 0, cells_of_ints hl (by simpa using hz) hcell, Nat.le_trans hl hm, wf_getD (by decide) hwz⟩
  obtain ⟨a1, len1, cap1, rfl⟩ := okWide_slice Try.underlying22 (hval 1 22 v1 rfl rfl)
  have k1 := h1
  have lt1 : ∀ x ∈ p1, x.block < W.heap.size := by obtain ⟨m, hm⟩ := k1; exact DataW.trod_lt m _ _ _ hm
  obtain ⟨f1, w1, m1, b1⟩ : ∃ f : Nat → Int, Cells W a1 len1 (fun j => .int .i64 (f j)) ∧ len1 ≤ maxLen ∧ ∀ j, (Lit.int .i64 (f j)).wf = true := by
    obtain ⟨fuel, hf⟩ := h1
    rcases open_ints Try.underlying22 Try.underlying3 (by kernel_rfl) hf with ⟨hcs, _⟩ | ⟨x, l, c, zs, hcs, _, hl, hm, hz, _, hcell, hwz⟩
    · simp [Value.cells] at hcs
      obtain ⟨rfl, rfl, rfl⟩ := hcs
      exact ⟨fun _ => 0, fun j hj => absurd hj (by omega), Nat.zero_le _, fun _ => (by decide : (Lit.int .i64 0).wf = true)⟩
    · simp [Value.cells] at hcs
      obtain ⟨rfl, rfl, rfl⟩ := hcs
      exact ⟨fun j => zs.getD j 0, cells_of_ints hl (by simpa using hz) hcell, Nat.le_trans hl hm, wf_getD (by decide) hwz⟩
  obtain ⟨a2, len2, cap2, rfl⟩ := okWide_slice Try.underlying23 (hval 2 23 v2 rfl rfl)
  have k2 := h2
  have lt2 : ∀ x ∈ p2, x.block < W.heap.size := by obtain ⟨m, hm⟩ := k2; exact DataW.trod_lt m _ _ _ hm
  obtain ⟨f2, w2, m2⟩ : ∃ f : Nat → Bool, Cells W a2 len2 (fun j => .bool (f j)) ∧ len2 ≤ maxLen := by
    obtain ⟨fuel, hf⟩ := h2
    rcases Deep.open_slice1 Try.underlying23 (by kernel_rfl) hf with ⟨hcs, _⟩ | ⟨x, l, c, m, n, V, D, Pl, hcs, _, hl, hm, hmm, _, hx⟩
    · simp [Value.cells] at hcs
      obtain ⟨rfl, rfl, rfl⟩ := hcs
      exact ⟨fun _ => false, fun j hj => absurd hj (by omega), Nat.zero_le _⟩
    · simp [Value.cells] at hcs
      obtain ⟨rfl, rfl, rfl⟩ := hcs
      refine ⟨fun j => boolOf (V j), cells_of (fun j hj => ?_), Nat.le_trans hl hm⟩
      obtain ⟨e1, e2⟩ := hx j (by rw [hmm]; simp; omega)
      obtain ⟨b, e3, _⟩ := DataW.trod_bool Try.underlying4 e2
      simp only [List.cons.injEq, and_true] at e3
      show W.cell? (x.add j) = some (.bool (boolOf (V j)))
      rw [e1, e3]
      rfl
  obtain ⟨a3, len3, cap3, rfl⟩ := okWide_slice Try.underlying24 (hval 3 24 v3 rfl rfl)
  have k3 := h3
  have lt3 : ∀ x ∈ p3, x.block < W.heap.size := by obtain ⟨m, hm⟩ := k3; exact DataW.trod_lt m _ _ _ hm
  obtain ⟨f3, w3, m3, b3⟩ : ∃ f : Nat → Int, Cells W a3 len3 (fun j => .int .i32 (f j)) ∧ len3 ≤ maxLen ∧ ∀ j, (Lit.int .i32 (f j)).wf = true := by
    obtain ⟨fuel, hf⟩ := h3
    rcases open_ints Try.underlying24 Try.underlying21 (by kernel_rfl) hf with ⟨hcs, _⟩ | ⟨x, l, c, zs, hcs, _, hl, hm, hz, _, hcell, hwz⟩
    · simp [Value.cells] at hcs
      obtain ⟨rfl, rfl, rfl⟩ := hcs
      exact ⟨fun _ => 0, fun j hj => absurd hj (by omega), Nat.zero_le _, fun _ => (by decide : (Lit.int .i32 0).wf = true)⟩
    · simp [Value.cells] at hcs
      obtain ⟨rfl, rfl, rfl⟩ := hcs
      exact ⟨fun j => zs.getD j 0, cells_of_ints hl (by simpa using hz) hcell, Nat.le_trans hl hm, wf_getD (by decide) hwz⟩
  clear hA0 hval0
  refine (walk a0 a1 a2 a3 len0 len1 len2 len3 cap0 cap1 cap2 cap3 f0 f1 f2 f3 W m0 m1 m2 m3 b3 w0 w1 w2 w3).mono fun e W' ⟨he, bel⟩ => ?_
  subst he
  exact ⟨_, rfl, _, _, _, [], _, [], hW', trodAll_mk1 (shut_bool Try.underlying4 _), (trodAll_cons_mk (Below.trod laidOut (by kernel_rfl) (of_decide_eq_true (by kernel_rfl)) k0 bel lt0) (trodAll_cons_mk (Below.trod laidOut (by kernel_rfl) (of_decide_eq_true (by kernel_rfl)) k1 bel lt1) (trodAll_cons_mk (Below.trod laidOut (by kernel_rfl) (of_decide_eq_true (by kernel_rfl)) k2 bel lt2) (trodAll_cons_mk (Below.trod laidOut (by kernel_rfl) (of_decide_eq_true (by kernel_rfl)) k3 bel lt3) trodAll_mk0)))), rfl, bel.frame _, fun h => by cases h⟩

theorem over : Rows.fnSettleRunsMatchesModelRow.holds Try.pinned (OpenSpec.ofChange Rows.fnSettleRunsMatchesModelSpec) :=
  OpenClaim.holds_of_wide 3 Try.f3 rfl rfl rfl rfl rfl rfl rfl ⟨rfl, rfl, rfl, rfl, rfl⟩ rfl rfl rfl rfl rfl (by kernel_rfl) Try.func3 (by kernel_rfl)
    (of_decide_eq_true (by kernel_rfl)) (by unfold Func.isWrapper; first | (rw [if_pos (by decide +kernel)]; kernel_rfl) | (rw [if_neg (by decide +kernel)]; exact ⟨rfl, rfl⟩))
    (fun os started H enc _ => lifted os started H enc)

/-- ████ THE STATEMENT ████ -/
theorem proved : Rows.FnSettleRunsMatchesModelSaid := over
end Go.Proofs.Qxb6003776a.fnSettleRunsMatchesModel
