/-
  PropParseNameInvertsNamesListStoreSorts: the row. (The frame after the kit's worked rows with 'laid'.)
-/
import Derived.Test.Qxb6003817aDoorRows
import Derived.Test.Qxb6003817aDoorLaw
import Derived.WalkKit
import Derived.ProofKit
import Derived.OpenShut
import Derived.ShutString
import Derived.Handed
import Derived.JoinedOf
import Derived.JoinedAt
import Derived.LaidLaws
import Derived.Stop.LaidErr
import Derived.ChangeMaps5
namespace Go.Proofs.Qxb6003817aDoor.propParseNameInvertsNamesListStoreSorts
open Go.ChangeShapes Go.WideShapes Go.ChangeAt Go.RowKit
open Go.ChangeMaps (open_string shut_string)
set_option linter.unusedVariables false

theorem own : ownKnob Tryd.prog.godebug = none := by kernel_rfl
theorem laidOut : laidOutB Tryd.prog = true := by kernel_rfl
theorem cells65 : Tryd.prog.cellsOf 65 = 1 := by kernel_rfl
theorem cells9 : Tryd.prog.cellsOf 9 = 1 := by kernel_rfl
theorem cells22 : Tryd.prog.cellsOf 22 = 1 := by kernel_rfl
theorem cells57 : Tryd.prog.cellsOf 57 = 20 := by kernel_rfl
/-- The sentinels' type, as the row spells it. -/
def sentName : String := match (Rows.laid_strconv_ErrRange : DataW Unit) with
  | .iface n _ => n
  | _ => ""
theorem row63 (u : TypeId) (h : Tryd.prog.typeName? 3 u = some sentName) : u = 63 :=
  typeName_ptr_named (nm := "errors.errorString") (by kernel_rfl) (by kernel_rfl) (by decide) u (h.trans (by kernel_rfl))

/-! One start that fits: the listed variables as their initialisers lay them. -/
def litVal : DataW Unit → Value
  | .lit (.int k z) => .int k z
  | _ => undef
def tabOf : DataW Unit → Array Value
  | .agg l => (l.map litVal).toArray
  | _ => #[]
def synS : ByteArray := ⟨#[105, 110, 118, 97, 108, 105, 100, 32, 115, 121, 110, 116, 97, 120]⟩
def ranS : ByteArray := ⟨#[118, 97, 108, 117, 101, 32, 111, 117, 116, 32, 111, 102, 32, 114, 97, 110, 103, 101]⟩
def setTo (cs : Array Value) : Obj → Obj
  | .cells _ t frozen => .cells cs t frozen
  | o => o
/-- A world with its variables laid. -/
def laidIn (low : Nat) (w0 : World) : World :=
  { w0 with heap := ((((w0.heap.modify 0 (setTo #[.iface 63 (.pointer (some ⟨low, 0, none⟩))])).modify 1 (setTo #[.iface 63 (.pointer (some ⟨low + 1, 0, none⟩))])).modify 2 (setTo (tabOf Rows.laid_internal_strconv_uint64pow10))).modify 3 (setTo (tabOf Rows.laid_math_bits_deBruijn32tab))).modify 4 (setTo (tabOf Rows.laid_math_bits_deBruijn64tab)) }
theorem laid_met (os : Os) (args : Array Value) : laidMet Tryd.prog Rows.propParseNameInvertsNamesListStoreSortsRow.laid ((laidIn (World.holding Tryd.prog default ⟨#[], #[], []⟩).heap.size (World.holding Tryd.prog os ⟨#[.cells #[.string synS] 65, .cells #[.string ranS] 65], #[], []⟩)).forCall (fun _ _ => 0) ⟨#[], args, []⟩).memory :=
  laidMet_of_run' 8 (by kernel_rfl) (by kernel_rfl)

theorem tab_data : (Rows.laid_internal_strconv_uint64pow10 : DataW Unit) = Lib.tabData .u64 Lib.pow10Tab := by kernel_rfl

/-- What the row's list gives the walk. -/
theorem glob {W : World} (h : laidMet Tryd.prog Rows.propParseNameInvertsNamesListStoreSortsRow.laid W) : Glob W := by
  have h3 := laidMet.tail (laidMet.tail h)
  have h4 := laidMet.tail h3
  have h5 := laidMet.tail h4
  rw [tab_data] at h3
  refine ⟨Lib.tabIs_of_head (g := 2) (by kernel_rfl) (by kernel_rfl) Tryd.underlying57 Tryd.underlying22 cells22 cells57 h3, ?_, ?_⟩
  · obtain ⟨a, s, hv, -, -, -⟩ := laid_sentinel h5 (g := 0) (by kernel_rfl) (by kernel_rfl) Tryd.underlying33 row63 Tryd.underlying63 Tryd.underlying65 rfl rfl Tryd.underlying9 cells65 cells9
    exact ⟨_, _, by have h0 := World.var?_cell (g := 0) (by kernel_rfl) hv 0; simpa using h0⟩
  · obtain ⟨a, s, hv, -, -, -⟩ := laid_sentinel h4 (g := 1) (by kernel_rfl) (by kernel_rfl) Tryd.underlying33 row63 Tryd.underlying63 Tryd.underlying65 rfl rfl Tryd.underlying9 cells65 cells9
    exact ⟨_, _, by have h0 := World.var?_cell (g := 1) (by kernel_rfl) hv 0; simpa using h0⟩

theorem walk (n : Nat) (hn : n < 18446744073709551616) (s : ByteArray) (w : World) (h : Glob w) :
    Calls Tryd.prog 3 #[.int .u64 n, .string s] w fun e w' => e = .returned (.bool true) ∧ Below w.heap.size w w' := by
  by_cases hs : 65536 < s.size
  · exact law_long n s hs w
  · exact law_main n hn s (by omega) w h

set_option maxRecDepth 100000 in
theorem lifted (os : Os) (started : os.Started) (H : Type) (enc : TypeId × Value → H) :
    ReturnsInHanded {} Tryd.checked os 3 .any (fun w args => (Rows.propParseNameInvertsNamesListStoreSortsSpec.pre enc Tryd.prog Tryd.f3 Rows.propParseNameInvertsNamesListStoreSortsRow.domain false w args ∧ laidMet Tryd.prog Rows.propParseNameInvertsNamesListStoreSortsRow.laid w) ∧ sizedMet enc Tryd.prog Tryd.f3 (OpenSpec.ofChange Rows.propParseNameInvertsNamesListStoreSortsSpec) false w args)
      (Rows.propParseNameInvertsNamesListStoreSortsSpec.post enc Tryd.prog Tryd.f3 false true false false) := by
  refine returnsInHanded_of_change_and (C := Tryd.checked) (X := fun w _ => laidMet Tryd.prog Rows.propParseNameInvertsNamesListStoreSortsRow.laid w) (fun _ _ _ hh h => h.of_heap hh) own started (by kernel_rfl) Tryd.func3
    (ChangeSpec.witness_at (enc := enc) (C := Tryd.checked) (os := os) (X := fun w _ => laidMet Tryd.prog Rows.propParseNameInvertsNamesListStoreSortsRow.laid w) false (laidIn (World.holding Tryd.prog default ⟨#[], #[], []⟩).heap.size (World.holding Tryd.prog os ⟨#[.cells #[.string synS] 65, .cells #[.string ranS] 65], #[], []⟩)) #[.int .u64 0, .string ⟨#[]⟩] 8 rfl (by kernel_rfl) (by kernel_rfl) (by kernel_rfl) (by kernel_rfl) (by kernel_rfl) (laid_met os _)) ?_
  intro W base args ds gs before hval0 hW hcnd0 _ hL _
  clear hcnd0
  have hval : ∀ (j : Nat) t v, Tryd.f3.params[j]? = some t → args[j]? = some v → Value.okWide Tryd.prog W .any base t v := hval0
  have hW' := hW
  obtain ⟨p, q, hA0, hV, rfl, _, _⟩ := hW
  have hA : DataW.TrodAll enc Tryd.prog W 0 (fun _ => true) true Tryd.f3.params.toList args.toList ds p := hA0
  rw [Tryd.params3] at hA hval
  obtain ⟨v0, v1, d0, d1, p0, p1, rfl, rfl, rfl, h0, h1⟩ := trodAll_two hA
  obtain ⟨rfl, rfl⟩ := trodVars_none hV
  obtain ⟨i, rfl, rfl, rfl, wi⟩ := open_int Tryd.underlying22 (hval 0 22 v0 rfl rfl) h0
  obtain ⟨s, rfl, rfl, rfl, ws⟩ := open_string Tryd.underlying9 (hval 1 9 v1 rfl rfl) h1
  clear hA0 hval0
  simp only [List.append_nil] at hW'
  have hb := bounds_u64 wi
  obtain ⟨n, rfl⟩ : ∃ n : Nat, i = n := ⟨i.toNat, by omega⟩
  refine (walk n (by omega) s W (glob hL)).mono fun e W' ⟨he, bel⟩ => ?_
  subst he
  exact ⟨_, rfl, _, _, _, [], [], [], hW', trodAll_mk1 (shut_bool Tryd.underlying4 _), trodAll_mk2 (shut_int Tryd.underlying22 wi) (shut_string Tryd.underlying9 ws), rfl, bel.frame _, fun h => by cases h⟩

/-- The row. -/
theorem over : Rows.PropParseNameInvertsNamesListStoreSortsSaid :=
  OpenClaim.holds_of_wide 3 Tryd.f3 rfl rfl rfl rfl rfl rfl rfl ⟨rfl, rfl, rfl, rfl, rfl⟩ rfl rfl rfl rfl rfl (by kernel_rfl) Tryd.func3 (by kernel_rfl)
    (of_decide_eq_true (by kernel_rfl)) (by unfold Func.isWrapper; first | (rw [if_pos (by decide +kernel)]; kernel_rfl) | (rw [if_neg (by decide +kernel)]; exact ⟨rfl, rfl⟩))
    (fun os started H enc _ => lifted os started H enc)
end Go.Proofs.Qxb6003817aDoor.propParseNameInvertsNamesListStoreSorts
