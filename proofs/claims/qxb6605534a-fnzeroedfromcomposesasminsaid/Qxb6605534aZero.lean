/-
  'zeroedFrom' by its contract.
-/
import Derived.Test.Qxb6605534aSmall
import Derived.Deep.MidRow
import Derived.Deep.WholeRow
import Derived.Lib.SliceRun
import Derived.Stop.BytesEq
import Derived.Below
import Derived.Deep.Cut
namespace Go.Proofs.Qxb6605534a
open Go.RowKit
open Extern.Stop (cell)

/-- xs with zeros from f on (512 in all). -/
def pre (xs : List UInt8) (f : Nat) : List UInt8 := xs.take f ++ List.replicate (512 - f) 0

theorem pre_len {xs : List UInt8} (h : xs.length = 512) (f : Nat) : (pre xs f).length = 512 := by simp [pre, h]; omega

theorem pre_get {xs : List UInt8} (h : xs.length = 512) (f j : Nat) (hj : j < 512) : (pre xs f)[j]? = if j < f then xs[j]? else some 0 := by
  unfold pre
  by_cases hf : j < f
  · rw [if_pos hf, List.getElem?_append_left (by simp [h]; omega), List.getElem?_take, if_pos hf]
  · rw [if_neg hf, List.getElem?_append_right (by simp; omega), List.getElem?_replicate, if_pos (by simp; omega)]

theorem pre_ext {xs ys : List UInt8} (hx : xs.length = 512) (hy : ys.length = 512) (h : ∀ j, j < 512 → xs[j]? = ys[j]?) : xs = ys := by
  apply List.ext_getElem?
  intro j
  by_cases hj : j < 512
  · exact h j hj
  · rw [List.getElem?_eq_none (by omega), List.getElem?_eq_none (by omega)]

theorem pre_pre {xs : List UInt8} (h : xs.length = 512) (f k : Nat) : pre (pre xs f) k = pre xs (min f k) := by
  apply pre_ext (pre_len (pre_len h f) k) (pre_len h _)
  intro j hj
  rw [pre_get (pre_len h f) k j hj, pre_get h f j hj, pre_get h _ j hj]
  by_cases h1 : j < k
  · by_cases h2 : j < f
    · rw [if_pos h1, if_pos h2, if_pos (by omega)]
    · rw [if_pos h1, if_neg h2, if_neg (by omega)]
  · rw [if_neg h1, if_neg (by omega)]

/-- Zeros from f on. -/
def ZeroFrom (xs : List UInt8) (f : Nat) : Prop := ∀ j, f ≤ j → j < 512 → xs[j]? = some 0

theorem pre_zero {xs : List UInt8} (h : xs.length = 512) (f : Nat) : ZeroFrom (pre xs f) f := fun j h1 h2 => by rw [pre_get h f j h2, if_neg (by omega)]

theorem pre_same {xs : List UInt8} (h : xs.length = 512) {f : Nat} (hz : ZeroFrom xs f) : pre xs f = xs := by
  apply pre_ext (pre_len h f) h
  intro j hj
  rw [pre_get h f j hj]
  by_cases h1 : j < f
  · rw [if_pos h1]
  · rw [if_neg h1, hz j (by omega) hj]

/-- What a block's pointer reads as. -/
def Ptr (w : World) (v : Value) (xs : List UInt8) : Prop :=
  xs.length = 512 ∧ ((v = .pointer none ∧ xs = List.replicate 512 0) ∨ ∃ g, v = .pointer (some ⟨g, 0, none⟩) ∧ w.rangeAt g 0 (xs.map cell))

theorem rangeAt_kept {w w' : World} {g o : Nat} {cs : List Value} (h : w.rangeAt g o cs) (hg : w.grownBy w' none) : w'.rangeAt g o cs := fun j v hv => hg.cell (h j v hv) (by simp)

theorem Ptr.kept {w w' : World} {v : Value} {xs : List UInt8} (h : Ptr w v xs) (hg : w.grownBy w' none) : Ptr w' v xs := by
  refine ⟨h.1, ?_⟩
  rcases h.2 with h | ⟨g, h1, h2⟩
  · exact .inl h
  · exact .inr ⟨g, h1, rangeAt_kept h2 hg⟩

theorem zeros_pre (f : Nat) : pre (List.replicate 512 0) f = List.replicate 512 0 :=
  pre_same (List.length_replicate ..) (fun j _ h => by rw [List.getElem?_replicate, if_pos h])

theorem size33 : (Try.prog.info? 33).map (·.size) = some 512 := by kernel_rfl
theorem size23 : (Try.prog.info? 23).map (·.size) = some 512 := by kernel_rfl

theorem info33 : (Try.prog.info? 33).map (fun i => (i.zero, i.size)) = some (some (.agg (Array.replicate 512 (.int .u8 0))), 512) := by kernel_rfl
theorem info23 : (Try.prog.info? 23).map (fun i => (i.zero, i.size)) = some (some (.agg (Array.replicate 512 (.int .u8 0))), 512) := by kernel_rfl
/-- The zero value of either type, its cells a name. -/
theorem zeros : ∃ Z : Array Value, Z = ((List.replicate 512 (0 : UInt8)).map cell).toArray ∧ Z.size = 512 ∧ (∀ w, (zeroValue 33).run Try.prog w = .ok (.agg Z) w) ∧ ∀ w, (zeroValue 23).run Try.prog w = .ok (.agg Z) w :=
  ⟨_, rfl, by rw [List.size_toArray, List.length_map, List.length_replicate], fun w => by rw [(zero_of_info info33).1 w, List.map_replicate]; rfl, fun w => by rw [(zero_of_info info23).1 w, List.map_replicate]; rfl⟩

/-- A whole array into the block that was made last, at a plain region's list. -/
theorem wpList_store_new {P : Program} {ops : Array Oper} {rest : List Oper} {op : Oper} {a : Act} {w : World} {Q : Exit → Act → World → Prop} (hgd : op.guard = none) (ty : TypeId) (x y : Operand) (ho : op.op = .store ty x y)
    (c c' : Array Value) (hx : a.eval x = .pointer (some ⟨w.heap.size, 0, none⟩)) (hy : a.eval y = .agg c') (hi : (P.info? ty).map (·.size) = some c'.size) (hs : c.size = c'.size) (h1 : c'.all (·.oneCell') = true)
    (h : wpList P ops Q rest (a.put op.dst undef) (w.alloc (.cells c' ty))) : wpList P ops Q (op :: rest) a (w.alloc (.cells c ty)) :=
  wpList_plain hgd fun K hK => by
    unfold Oper.wp execOp
    simp only [ho, hx, hy, run_storeAt_new w ty c c' hi hs h1, Sem.run_bind, Sem.run_pure, Result.andThen_ok]
    exact hK _ _ h

theorem bytes_one (xs : List UInt8) : (xs.map cell).toArray.all (·.oneCell') = true := all_oneCell_toArray (fun v hv => by simp only [List.mem_map] at hv; obtain ⟨b, _, rfl⟩ := hv; rfl)

theorem zf_nil (f : Nat) (w : World) : Calls Try.prog 7 #[.pointer none, .int .i64 f] w fun e w' => e = .returned (.pointer none) ∧ w' = w := by
  go_enter Try.func7, Try.ntmps7
  go_wp2
  go_ret
  exact ⟨rfl, rfl⟩

theorem zf_far (g f : Nat) (hf : 512 ≤ f) (w : World) : Calls Try.prog 7 #[.pointer (some ⟨g, 0, none⟩), .int .i64 f] w fun e w' => e = .returned (.pointer (some ⟨g, 0, none⟩)) ∧ w' = w := by
  have hfI : (512 : Int) ≤ (f : Int) := by omega
  go_enter Try.func7, Try.ntmps7
  go_wp2
  go_ret
  exact ⟨rfl, rfl⟩

theorem cell_at {w : World} {g : Nat} {xs : List UInt8} (h : w.rangeAt g 0 (xs.map cell)) (hx : xs.length = 512) (j : Nat) (hj : j < 512) : w.cell? ⟨g, j, none⟩ = some (.int .u8 ((xs.getD j 0).toNat : Int)) := by
  have := h j (cell (xs.getD j 0)) (by rw [List.getElem?_map, List.getElem?_eq_getElem (by omega)]; simp [List.getD, List.getElem?_eq_getElem (show j < xs.length by omega)])
  rw [Nat.zero_add] at this
  exact this

theorem slice33 (g f : Nat) (hf : f < 512) (w : World) : (Instr.sliceAt 33 (.pointer (some ⟨g, 0, none⟩)) (some (.int .i64 f)) none none).run Try.prog w = .ok (.slice (some ⟨g, f, none⟩) (512 - f) (512 - f)) w := by
  have hl : Try.prog.arrayLen 33 = 512 := by simp [Program.arrayLen, Try.underlying33]
  have he : Try.prog.elem 33 = 5 := by simp [Program.elem, Try.underlying33]
  rw [run_sliceAt_array_l w 33 ⟨g, 0, none⟩ (by rw [hl, he]; exact Try.underlying33) .i64 f (by omega) (by rw [hl]; omega), he, hl]
  simp [go_sem, slicedAt, Addr.add, Result.andThen]
  rw [if_neg (by omega)]
  by_cases hf0 : f = 0 <;> simp [hf0]

theorem run_zero5 (w : World) : (zeroValue 5).run Try.prog w = .ok (.int .u8 0) w := by simp [go_sem]

/-- 'clear(z[f:])' at the block that was made last. -/
theorem clear_new (w : World) (xs : List UInt8) (hx : xs.length = 512) (f : Nat) (hf : f < 512) (ty : TypeId) :
    (Builtin.clear_ #[31] ty #[.slice (some ⟨w.heap.size, f, none⟩) (512 - f) (512 - f)]).run Try.prog (w.alloc (.cells (xs.map cell).toArray 33)) = .ok (.tuple #[]) ((w.alloc (.cells (xs.map cell).toArray 33)).setCells w.heap.size f (List.replicate (512 - f) (.int .u8 0))) := by
  have hb := heap_alloc_last w (.cells (xs.map cell).toArray 33)
  refine Lib.run_clear_slice _ 31 5 ty (.int .u8 0) Try.underlying31 run_zero5 rfl rfl w.heap.size f (512 - f) (512 - f) (by omega) (fun j hj => ?_) (fun j hj => ?_)
  · rw [cell_of_row _ _ (f + j) _ _ _ hb]
    simp [hx]
    omega
  · simp only [World.frozen?, hb]
    simp

/-- What lies there behind it. -/
theorem cleared (w : World) (xs : List UInt8) (hx : xs.length = 512) (f : Nat) (hf : f < 512) :
    ((w.alloc (.cells (xs.map cell).toArray 33)).setCells w.heap.size f (List.replicate (512 - f) (.int .u8 0))).rangeAt w.heap.size 0 ((pre xs f).map cell) := by
  have hb := heap_alloc_last w (.cells (xs.map cell).toArray 33)
  intro j v hv
  have hj : j < 512 := by have := (List.getElem?_eq_some_iff.1 hv).1; rw [List.length_map, pre_len hx] at this; exact this
  rw [List.getElem?_map, pre_get hx f j hj] at hv
  rw [Nat.zero_add]
  by_cases h1 : j < f
  · rw [World.cell?_setCells_out _ _ _ _ _ (fun _ _ => .inl h1), cell_of_row _ _ j _ _ _ hb]
    rw [if_pos h1] at hv
    simpa using hv
  · rw [if_neg h1] at hv
    have h2 := World.cell?_setCells_in w.heap.size (List.replicate (512 - f) (.int .u8 0)) f (w.alloc (.cells (xs.map cell).toArray 33)) (fun i hi => by
      rw [List.length_replicate] at hi
      rw [cell_of_row _ _ (f + i) _ _ _ hb]
      simp [hx]
      omega) (j - f) (by rw [List.length_replicate]; omega)
    rw [show f + (j - f) = j by omega] at h2
    rw [h2, List.getElem_replicate]
    exact hv

theorem grown_setCell (w : World) (a : Addr) (u : Value) : w.grownBy (w.setCell a u) (some a.block) :=
  ⟨rfl, rfl, rfl, by simp, fun k _ hk => heap_setCell_other w a k u (fun e => hk (by rw [e]))⟩

theorem grown_setCells (b : Nat) : ∀ (vs : List Value) (o : Nat) (w : World), w.grownBy (w.setCells b o vs) (some b)
  | [], _, _ => World.grownBy.refl _ _
  | v :: r, o, w => (grown_setCell w ⟨b, o, none⟩ v).trans (grown_setCells b r (o + 1) _)

theorem grown_new (w : World) (x : Obj) (o : Nat) (vs : List Value) : w.grownBy ((w.alloc x).setCells w.heap.size o vs) none :=
  (World.grownBy_alloc w x none).andThen (grown_setCells w.heap.size vs o _) (fun j e => by cases e; exact .inl (Nat.le_refl _))

set_option maxRecDepth 20000 in
set_option maxHeartbeats 800000 in
theorem zf_near (g f : Nat) (xs : List UInt8) (hf : f < 512) (hx : xs.length = 512) (w : World) (h : w.rangeAt g 0 (xs.map cell)) :
    Calls Try.prog 7 #[.pointer (some ⟨g, 0, none⟩), .int .i64 f] w fun e w' => w.grownBy w' none ∧ ((ZeroFrom xs f ∧ e = .returned (.pointer (some ⟨g, 0, none⟩))) ∨ (¬ ZeroFrom xs f ∧ f = 0 ∧ e = .returned (.pointer none)) ∨ ¬ ZeroFrom xs f ∧ ∃ g', e = .returned (.pointer (some ⟨g', 0, none⟩)) ∧ w'.rangeAt g' 0 ((pre xs f).map cell)) := by
  have hfI : (f : Int) < 512 := by omega
  have hf0 : (0 : Int) ≤ (f : Int) := by omega
  have HR : Hid (w.rangeAt g 0 (xs.map cell)) := h
  have HX : Hid (xs.length = 512) := hx
  have hs := fun g => slice33 g f hf
  obtain ⟨Z, -, hZs, hZ, -⟩ := zeros
  clear h hx
  go_enter Try.func7, Try.ntmps7
  go_wp2_with fail
  refine (contains_any g f (512 - f) (512 - f) (fun j => ((xs.getD (f + j) 0).toNat : Int)) _ (by omega) (fun j hj => cell_at HR.out HX.out (f + j) (by omega))).mono ?_
  rintro e w0 ⟨rfl, (⟨rfl, hz⟩ | ⟨rfl, hz⟩)⟩
  · have HZ : Hid (ZeroFrom xs f) := by
      intro j h1 h2
      have h3 := hz (j - f) (by omega)
      simp only [show f + (j - f) = j by omega] at h3
      have h4 : xs.getD j 0 = 0 := by
        apply UInt8.toNat_inj.1
        simpa using h3
      have hx := HX.out
      rw [List.getElem?_eq_getElem (by omega)]
      simp [List.getD, List.getElem?_eq_getElem (show j < xs.length by omega)] at h4
      rw [h4]
    clear hz
    go_wp2
    go_ret
    exact ⟨World.grownBy.refl _ _, .inl ⟨HZ.out, rfl⟩⟩
  · have HZ : Hid (¬ ZeroFrom xs f) := by
      intro hq
      obtain ⟨k, hk, h1⟩ := hz
      have h2 := hq (f + k) (by omega) (by omega)
      apply h1
      simp [List.getD, h2]
    clear hz
    by_cases hf1 : f = 0
    · subst hf1
      go_wp2
      go_ret
      exact ⟨World.grownBy.refl _ _, .inr (.inl ⟨HZ.out, rfl⟩)⟩
    · have hf1I : ¬ (f : Int) = 0 := by omega
      clear hf hf1
      go_upto_region 5 with fail
      have HZs : Hid (Z.size = 512) := hZs
      clear hZs
      go_wp2_with (first | refine wpList_load_mid rfl 33 _ rfl g 0 rfl (xs.map cell) (.array 512 5) HR.out Try.underlying33 rfl (by rw [size33, List.length_map, HX.out]) ?_ | refine wpList_store_new rfl 33 _ _ rfl Z (xs.map cell).toArray rfl rfl (by rw [size33, List.size_toArray, List.length_map, HX.out]) (by rw [HZs.out, List.size_toArray, List.length_map, HX.out]) (bytes_one xs) ?_)
      rw [clear_new w0 xs HX.out f (by omega)]
      go_wp2
      go_ret
      exact ⟨grown_new _ _ _ _, .inr (.inr ⟨HZ.out, w0.heap.size, rfl, cleared w0 xs HX.out f (by omega)⟩)⟩

/-- 'zeroedFrom'. -/
theorem zf_any (f : Nat) (v : Value) (xs : List UInt8) (w : World) (h : Ptr w v xs) :
    Calls Try.prog 7 #[v, .int .i64 f] w fun e w' => w.grownBy w' none ∧ ∃ v', e = .returned v' ∧ Ptr w' v' (pre xs f) ∧ (ZeroFrom xs f → v' = v) := by
  obtain ⟨hx, (⟨rfl, rfl⟩ | ⟨g, rfl, h⟩)⟩ := h
  · refine (zf_nil f w).mono ?_
    rintro e w' ⟨rfl, rfl⟩
    exact ⟨World.grownBy.refl _ _, _, rfl, ⟨by rw [zeros_pre, hx], .inl ⟨rfl, zeros_pre f⟩⟩, fun _ => rfl⟩
  · by_cases hf : f < 512
    · refine (zf_near g f xs hf hx w h).mono ?_
      rintro e w' ⟨hg, (⟨hz, rfl⟩ | ⟨hz, rfl, rfl⟩ | ⟨hz, g', rfl, h'⟩)⟩
      · exact ⟨hg, _, rfl, ⟨pre_len hx f, .inr ⟨g, rfl, by rw [pre_same hx hz]; exact rangeAt_kept h hg⟩⟩, fun _ => rfl⟩
      · exact ⟨hg, _, rfl, ⟨pre_len hx 0, .inl ⟨rfl, by rw [pre, List.take_zero, List.nil_append]⟩⟩, fun h1 => absurd h1 hz⟩
      · exact ⟨hg, _, rfl, ⟨pre_len hx f, .inr ⟨g', rfl, h'⟩⟩, fun h1 => absurd h1 hz⟩
    · refine (zf_far g f (by omega) w).mono ?_
      rintro e w' ⟨rfl, rfl⟩
      exact ⟨World.grownBy.refl _ _, _, rfl, ⟨pre_len hx f, .inr ⟨g, rfl, by rw [pre_same hx (fun j h1 h2 => by omega)]; exact h⟩⟩, fun _ => rfl⟩

/-- 'ZZzeroedFrom'. -/
theorem zz_any (f : Nat) (v : Value) (xs : List UInt8) (w : World) (h : Ptr w v xs) :
    Calls Try.prog 5 #[v, .int .i64 f] w fun e w' => w.grownBy w' none ∧ ∃ v', e = .returned v' ∧ Ptr w' v' (pre xs f) ∧ (ZeroFrom xs f → v' = v) := by
  have HP : Hid (Ptr w v xs) := h
  clear h
  go_enter Try.func5, Try.ntmps5
  go_wp2_with fail
  refine (zf_any f v xs _ HP.out).mono ?_
  rintro e w' ⟨hg, v', rfl, hp, hv⟩
  have HR : Hid (w.grownBy w' none ∧ Ptr w' v' (pre xs f) ∧ (ZeroFrom xs f → v' = v)) := ⟨hg, hp, hv⟩
  clear hg hp hv
  go_wp2
  go_ret
  exact ⟨HR.out.1, _, rfl, HR.out.2⟩
end Go.Proofs.Qxb6605534a
