/-
  PropMinHeapIsMultisetPopsLeastEnd: the row. (The row's frame after the kit's proof-skeleton.)
-/
import Derived.Test.Qxb6003817aRows
import Derived.Test.Qxb6003817aMain
import Derived.WalkKit
import Derived.ProofKit
import Derived.OpenShut
import Derived.ShutString
import Derived.ChangeOld
import Derived.Below
import Derived.Deep.Slices
namespace Go.Proofs.Qxb6003817a.propMinHeapIsMultisetPopsLeastEnd
open Go.ChangeShapes Go.WideShapes Go.ChangeAt Go.RowKit
set_option linter.unusedVariables false

theorem own : ownKnob Try.prog.godebug = none := by kernel_rfl
theorem laidOut : laidOutB Try.prog = true := by kernel_rfl

/-- One operation's cells. -/
def OneOp (w : World) (x : Addr) (j : Nat) (r : Bool × Rid) : Prop :=
  w.cell? (x.add (j * 5)) = some (.bool r.1) ∧ w.cell? (x.add (j * 5 + 1)) = some (.int .i64 r.2.1) ∧ w.cell? (x.add (j * 5 + 2)) = some (.int .u32 r.2.2.1) ∧ w.cell? (x.add (j * 5 + 3)) = some (.int .u32 r.2.2.2.1) ∧ w.cell? (x.add (j * 5 + 4)) = some (.int .u32 r.2.2.2.2)

theorem add_at (b off i : Nat) : (⟨b, off, none⟩ : Addr).add i = ⟨b, off + i, none⟩ := by
  by_cases hi : i = 0 <;> simp [Addr.add, hi]

theorem ops_of {w : World} {x : Addr} {n : Nat} {f : Nat → Bool × Rid} (h : ∀ j, j < n → OneOp w x j (f j)) : OpsAt w (some x) n (fun j => (f j).1) (fun j => (f j).2) := by
  intro j hj
  obtain ⟨b, off, spot⟩ := x
  have hspot : spot = none := by simpa [Addr.add] using World.cell?_spot (h 0 (by omega)).1
  subst hspot
  obtain ⟨h0, h1, h2, h3, h4⟩ := h j hj
  rw [add_at] at h0 h1 h2 h3 h4
  exact ⟨b, off, rfl, h0, h1, h2, h3, h4⟩

theorem walk (ao : Option Addr) (n cap : Nat) (bp : Nat → Bool) (rp : Nat → Rid) (w : World) (hm : n ≤ maxLen) (h : OpsAt w ao n bp rp) :
    Calls Try.prog 3 #[.slice ao n cap] w fun e w' => e = .returned (.bool true) ∧ Below w.heap.size w w' := by
  by_cases hn : 65536 < n
  · exact law_huge ao n cap w hm hn
  · cases hc : (cntF bp n).isSome with
    | false => exact law_bad ao n cap bp rp w (by omega) h hc
    | true => exact law_main ao n cap bp rp w (by omega) h hc

theorem cells2 : Try.prog.cellsOf 2 = 1 := by kernel_rfl
theorem cells4 : Try.prog.cellsOf 4 = 1 := by kernel_rfl
theorem cells27 : Try.prog.cellsOf 27 = 1 := by kernel_rfl
theorem cells29 : Try.prog.cellsOf 29 = 5 := by kernel_rfl

section
variable {H : Type} {enc : TypeId × Value → H} {w : World} {base : Nat} {spare : Nat → Bool} {held : Bool} {fuel : Nat}

theorem op_of {x : Addr} {j : Nat} {cs : List Value} {y : DataW H × List MemPlace} (hc : w.cells? base (x.add (j * 5)) 5 = some cs) (h : DataW.trod enc Try.prog w base spare held fuel 29 cs = some y) : ∃ r, OneOp w x j r := by
  obtain ⟨xs, n, _, _, hl, hlen, hf⟩ := DataW.trod_struct Try.underlying29 h
  obtain ⟨_, _, hcell⟩ := World.cells?_some hc
  rw [cells29] at hl
  match cs, hl, xs, hlen with
  | [v0, v1, v2, v3, v4], _, [x0, x1, x2, x3, x4], _ =>
    have f0 : DataW.trod enc Try.prog w base spare held n 4 (([v0, v1, v2, v3, v4].drop 0).take (Try.prog.cellsOf 4)) = some x0 := hf 0 _ rfl
    have f1 : DataW.trod enc Try.prog w base spare held n 2 (([v0, v1, v2, v3, v4].drop 1).take (Try.prog.cellsOf 2)) = some x1 := hf 1 _ rfl
    have f2 : DataW.trod enc Try.prog w base spare held n 27 (([v0, v1, v2, v3, v4].drop 2).take (Try.prog.cellsOf 27)) = some x2 := hf 2 _ rfl
    have f3 : DataW.trod enc Try.prog w base spare held n 27 (([v0, v1, v2, v3, v4].drop 3).take (Try.prog.cellsOf 27)) = some x3 := hf 3 _ rfl
    have f4 : DataW.trod enc Try.prog w base spare held n 27 (([v0, v1, v2, v3, v4].drop 4).take (Try.prog.cellsOf 27)) = some x4 := hf 4 _ rfl
    rw [cells4] at f0
    rw [cells2] at f1
    rw [cells27] at f2 f3 f4
    obtain ⟨b, e0, _⟩ := DataW.trod_bool Try.underlying4 f0
    obtain ⟨i1, e1, _⟩ := DataW.trod_int Try.underlying2 f1
    obtain ⟨i2, e2, _⟩ := DataW.trod_int Try.underlying27 f2
    obtain ⟨i3, e3, _⟩ := DataW.trod_int Try.underlying27 f3
    obtain ⟨i4, e4, _⟩ := DataW.trod_int Try.underlying27 f4
    simp only [List.drop_zero, List.drop_succ_cons, List.take_succ_cons, List.take_zero, List.cons.injEq, and_true] at e0 e1 e2 e3 e4
    subst e0 e1 e2 e3 e4
    have c0 := hcell 0 (by omega)
    have c1 := hcell 1 (by omega)
    have c2 := hcell 2 (by omega)
    have c3 := hcell 3 (by omega)
    have c4 := hcell 4 (by omega)
    rw [Deep.add_add] at c0 c1 c2 c3 c4
    exact ⟨(b, i1, i2, i3, i4), c0, c1, c2, c3, c4⟩
end

set_option maxRecDepth 100000 in
theorem lifted (os : Os) (started : os.Started) (H : Type) (enc : TypeId × Value → H) :
    ReturnsInHanded {} Try.checked os 3 .any (Rows.propMinHeapIsMultisetPopsLeastEndSpec.pre6 enc Try.prog Try.f3 Rows.propMinHeapIsMultisetPopsLeastEndRow.domain false) (Rows.propMinHeapIsMultisetPopsLeastEndSpec.post enc Try.prog Try.f3 false true false false) := by
  refine returnsInHanded_of_change (C := Try.checked) own started (by kernel_rfl) Try.func3
    (ChangeSpec.witness6 (enc := enc) (C := Try.checked) false ⟨#[], #[.slice none 0 0], []⟩ 8 (by kernel_rfl) (by kernel_rfl) (by kernel_rfl) (by kernel_rfl)) ?_
  intro W base args ds gs before hval0 hW hcnd _
  have hval : ∀ (j : Nat) t v, Try.f3.params[j]? = some t → args[j]? = some v → Value.okWide Try.prog W .any base t v := hval0
  have hW' := hW
  obtain ⟨p, q, hA0, hV, rfl, hfz, hnd⟩ := hW
  have hA : DataW.TrodAll enc Try.prog W 0 (fun _ => true) true Try.f3.params.toList args.toList ds p := hA0
  rw [Try.params3] at hA hval
  obtain ⟨v0, vs0, d0, ds0, p0, q0, hargs, rfl, rfl, h0, r0⟩ := trodAll_cons hA
  obtain ⟨rfl, rfl, rfl⟩ := trodAll_nil r0
  obtain rfl : args = #[v0] := by cases args; simp_all
  obtain ⟨rfl, rfl⟩ := trodVars_none hV
  obtain ⟨a0, len0, cap0, rfl⟩ := okWide_slice Try.underlying22 (hval 0 22 v0 rfl rfl)
  have k0 := h0
  have lt0 : ∀ x ∈ p0, x.block < W.heap.size := by obtain ⟨m, hm⟩ := k0; exact DataW.trod_lt m _ _ _ hm
  obtain ⟨bp, rp, m0, w0⟩ : ∃ (bp : Nat → Bool) (rp : Nat → Rid), len0 ≤ maxLen ∧ OpsAt W a0 len0 bp rp := by
    obtain ⟨fuel, hf⟩ := h0
    rcases Deep.open_slice Try.underlying22 hf with ⟨hcs, _⟩ | ⟨x, l, c, m, n, D, Pl, hcs, _, hl, hm, hmm, _, hx⟩
    · simp [Value.cells] at hcs
      obtain ⟨rfl, rfl, rfl⟩ := hcs
      exact ⟨fun _ => false, fun _ => (0, 0, 0, 0), Nat.zero_le _, fun j hj => absurd hj (by omega)⟩
    · simp [Value.cells] at hcs
      obtain ⟨rfl, rfl, rfl⟩ := hcs
      have hall : ∀ j, j < len0 → ∃ r, OneOp W x j r := by
        intro j hj
        obtain ⟨cs', e1, e2⟩ := hx j (by rw [hmm]; simp; omega)
        rw [cells29] at e1
        exact op_of e1 e2
      obtain ⟨f, hf2⟩ := Deep.choose_lt hall
      exact ⟨_, _, Nat.le_trans hl hm, ops_of hf2⟩
  clear hA0 hval0
  refine (walk a0 len0 cap0 bp rp W m0 w0).mono fun e W' ⟨he, bel⟩ => ?_
  subst he
  exact ⟨_, rfl, _, _, _, [], _, [], hW', trodAll_mk1 (shut_bool Try.underlying4 _), (trodAll_cons_mk (Below.trod laidOut (by kernel_rfl) (of_decide_eq_true (by kernel_rfl)) k0 bel lt0) trodAll_mk0), rfl, bel.frame _, fun h => by cases h⟩

theorem over : Rows.propMinHeapIsMultisetPopsLeastEndRow.holds Try.pinned (OpenSpec.ofChange Rows.propMinHeapIsMultisetPopsLeastEndSpec) :=
  OpenClaim.holds_of_wide 3 Try.f3 rfl rfl rfl rfl rfl rfl rfl ⟨rfl, rfl, rfl, rfl, rfl⟩ rfl rfl rfl rfl rfl (by kernel_rfl) Try.func3 (by kernel_rfl)
    (of_decide_eq_true (by kernel_rfl)) (by unfold Func.isWrapper; first | (rw [if_pos (by decide +kernel)]; kernel_rfl) | (rw [if_neg (by decide +kernel)]; exact ⟨rfl, rfl⟩))
    (fun os started H enc _ => lifted os started H enc)

/-- ████ THE STATEMENT ████ -/
theorem proved : Rows.PropMinHeapIsMultisetPopsLeastEndSaid := over
end Go.Proofs.Qxb6003817a.propMinHeapIsMultisetPopsLeastEnd
