/-
  The law: 'FnZeroedFromComposesAsMin'.
-/
import Derived.Test.Qxb6605534aPre
import Derived.Deep.RegionHeld
import Derived.Lib.Builder
namespace Go.Proofs.Qxb6605534a
open Go.RowKit
open Extern.Stop (cell)

theorem Ptr.isPtr {w : World} {v : Value} {xs : List UInt8} (h : Ptr w v xs) : ∃ a, v = .pointer a := by
  rcases h.2 with ⟨rfl, _⟩ | ⟨g, rfl, _⟩
  · exact ⟨_, rfl⟩
  · exact ⟨_, rfl⟩

theorem zz_ptr (f : Nat) (a : Option Addr) (xs : List UInt8) (w : World) (h : Ptr w (.pointer a) xs) :
    Calls Try.prog 5 #[.pointer a, .int .i64 f] w fun e w' => w.grownBy w' none ∧ ∃ a', e = .returned (.pointer a') ∧ Ptr w' (.pointer a') (pre xs f) := by
  refine (zz_any f _ xs w h).mono ?_
  rintro e w' ⟨hg, v', rfl, hp, -⟩
  obtain ⟨a', rfl⟩ := hp.isPtr
  exact ⟨hg, a', rfl, hp⟩

theorem zz_same (f : Nat) (a : Option Addr) (xs : List UInt8) (w : World) (h : Ptr w (.pointer a) xs) (hz : ZeroFrom xs f) :
    Calls Try.prog 5 #[.pointer a, .int .i64 f] w fun e w' => e = .returned (.pointer a) ∧ w.grownBy w' none := by
  refine (zz_any f _ xs w h).mono ?_
  rintro e w' ⟨hg, v', rfl, -, hv⟩
  rw [hv hz]
  exact ⟨rfl, hg⟩

theorem size5 : ∀ w, (sizeOf 5).run Try.prog w = .ok 1 w := fun w => by simp [go_sem]

theorem neq_same {ys : List UInt8} (hy : ys.length = 512) (w : World) : (binOp .neq 23 (.agg (ys.map cell).toArray) (.agg (ys.map cell).toArray)).run Try.prog w = .ok (.bool false) w := by
  rw [run_neq_struct, run_equalIn_bytes w 9998 23 5 512 Try.underlying23 Try.underlying5 size5 ys ys hy hy]
  simp

theorem law_neg (a : Option Addr) (f1 f2 : Int) (w : World) (h : f1 < 0 ∨ f2 < 0) : Calls Try.prog 3 #[.pointer a, .int .i64 f1, .int .i64 f2] w fun e w' => e = .returned (.bool true) ∧ w.grownBy w' none := by
  by_cases h1 : f1 < 0
  · clear h
    go_enter Try.func3, Try.ntmps3
    go_wp2
    go_ret
    exact ⟨rfl, World.grownBy.refl _ _⟩
  · have h2 : f2 < 0 := by omega
    clear h
    go_enter Try.func3, Try.ntmps3
    go_wp2
    go_ret
    exact ⟨rfl, World.grownBy.refl _ _⟩

/-- 'c := *b'. -/
theorem ptr_new {w : World} {xs : List UInt8} (hx : xs.length = 512) : Ptr (w.alloc (.cells (xs.map cell).toArray 23)) (.pointer (some ⟨w.heap.size, 0, none⟩)) xs :=
  ⟨hx, .inr ⟨_, rfl, range_row (heap_alloc_last w _)⟩⟩

theorem grown_drew (w : World) : w.grownBy w.drew none := ⟨rfl, rfl, rfl, Nat.le_refl _, fun _ _ _ => rfl⟩

theorem eq_same {ys : List UInt8} (hy : ys.length = 512) (w : World) : (Op.equalIn 10000 23 (.agg (ys.map cell).toArray) (.agg (ys.map cell).toArray)).run Try.prog w = .ok true w := by
  rw [run_equalIn_bytes w 9998 23 5 512 Try.underlying23 Try.underlying5 size5 ys ys hy hy]
  simp

theorem hidden {p : Prop} (h : p) : Hid p := h

theorem ptr_neq (a : Option Addr) (w : World) : (binOp .neq 22 (.pointer a) (.pointer a)).run Try.prog w = .ok (.bool false) w := by
  cases a with
  | none => simp [go_sem]
  | some a =>
    cases hi : Try.prog.info? 23 with
    | none => have := size23; rw [hi] at this; cases this
    | some j => exact Go.Lib.run_neq_ptr_same w a Try.underlying22 hi

theorem guard23 : Try.prog.eqGuardType Try.prog.depth 23 = false := by kernel_rfl

theorem exec_neq {ys : List UInt8} (hy : ys.length = 512) (r : Operand → Value) (x y : Operand) (o : Oper) (ho : o.op = .binOp .neq 23 x y 23) (hx : r x = .agg (ys.map cell).toArray) (hz : r y = .agg (ys.map cell).toArray) (w : World) :
    (execOp r o).run Try.prog w = .ok (.value (.bool false)) w := by
  unfold execOp
  simp only [ho, hx, hz, Sem.run_bind, Sem.run_pure, run_eqGuard_agg w .neq 23 x y _ _ guard23, Result.andThen_ok, neq_same hy]

theorem zero_at {xs ys : List UInt8} {f1 f2 m : Nat} (hx : xs.length = 512) (hy : ys = pre xs (min f1 f2)) (hm : m = min f1 f2) : ZeroFrom ys m := by
  rw [hy, hm]
  exact pre_zero hx _

set_option maxRecDepth 20000 in
set_option maxHeartbeats 3200000 in
theorem law_nil (f1 f2 : Nat) (w : World) : Calls Try.prog 3 #[.pointer none, .int .i64 f1, .int .i64 f2] w fun e w' => e = .returned (.bool true) ∧ w.grownBy w' none := by
  obtain ⟨Z, hZe, hZs, -, hZ⟩ := zeros
  have hf1 : ¬ (f1 : Int) < 0 := by omega
  have hf2 : ¬ (f2 : Int) < 0 := by omega
  obtain ⟨xs, hxs⟩ : ∃ xs : List UInt8, xs = List.replicate 512 0 := ⟨_, rfl⟩
  have HX : Hid (xs.length = 512) := by rw [hxs]; exact List.length_replicate ..
  have HP : Hid (Ptr w (.pointer none) xs) := ⟨HX.out, .inl ⟨rfl, hxs⟩⟩
  have HZs : Hid (Z.size = 512) := hZs
  have HG : Hid (w.grownBy w none) := World.grownBy.refl _ _
  clear hZe hZs hxs
  go_enter Try.func3, Try.ntmps3
  by_cases hlt : f2 < f1
  · have hltI : (f2 : Int) < (f1 : Int) := by omega
    have HM : Hid (f2 = min f1 f2) := by unfold Hid; omega
    clear hlt
    go_upto_region 9 with fail
    go_wp2_with fail
    refine (pfx_any _ _ xs _ HP.out).mono ?_
    rintro e w1 ⟨rfl, hg⟩
    have HG1 := hidden (HG.out.trans hg)
    have HP1 := hidden (HP.out.kept hg)
    clear hg HP HG
    obtain ⟨ys, hys⟩ : ∃ ys, ys = pre xs (min f1 f2) := ⟨_, rfl⟩
    have HYE := hidden hys
    rw [(congrArg (pre xs) HM.out).trans hys.symm]
    clear hys
    have HY : Hid (ys.length = 512) := by rw [HYE.out]; exact pre_len HX.out _
    have HS : Hid (Z.size = (ys.map cell).toArray.size) := by unfold Hid; rw [HZs.out, List.size_toArray, List.length_map, HY.out]
    go_upto_region 10 with (refine wpList_store_new rfl 23 _ _ rfl Z (ys.map cell).toArray rfl rfl (bytes_size HY.out) HS.out (bytes_one ys) ?_)
    obtain ⟨w2, hw2⟩ : ∃ w2, w2 = w1.alloc (.cells (ys.map cell).toArray 23) := ⟨_, rfl⟩
    have hg : w1.grownBy w2 none := by rw [hw2]; exact World.grownBy_alloc _ _ _
    have HR : Hid (w2.rangeAt w1.heap.size 0 (ys.map cell)) := by rw [hw2]; exact range_row (heap_alloc_last w1 _)
    have HG2 := hidden (HG1.out.trans hg)
    have HP2 := hidden (HP1.out.kept hg)
    rw [← hw2]
    clear hg HP1 HG1 hw2 hZ HS HZs
    go_wp2_with fail
    refine (zz_ptr f1 _ xs _ HP2.out).mono ?_
    rintro e w3 ⟨hg, a1, rfl, hp⟩
    have HG3 := hidden (HG2.out.trans hg)
    have HP3 := hidden hp
    have HR3 := hidden (rangeAt_kept HR.out hg)
    clear hg hp HP2 HG2 HR
    go_wp2_with fail
    refine (zz_ptr f2 _ _ _ HP3.out).mono ?_
    rintro e w4 ⟨hg, a2, rfl, hp⟩
    rw [pre_pre HX.out, ← HYE.out] at hp
    have hg := hg.trans (grown_drew w4)
    have HG4 := hidden (HG3.out.trans hg)
    have HP4 := hidden (hp.kept (grown_drew w4))
    have HQ4 := hidden (HP3.out.kept hg)
    have HR4 := hidden (rangeAt_kept HR3.out hg)
    clear hg hp HP3 HG3 HR3
    go_upto_region 12 with fail
    refine wp_region_held_drew (S := fun w' => w'.rangeAt w1.heap.size 0 (ys.map cell)) (by kernel_rfl) HR4.out (fun hS => ?_)
    refine wpAnyH_take (i := 0) (v := .pointer a2) rfl (by kernel_rfl) (by kernel_rfl) (by kernel_rfl) (fun _ _ _ h => h) (Or.inl ⟨rfl, fun _ _ => rfl⟩) hS ?_
    refine wpAnyH_take (i := 2) (v := .agg (ys.map cell).toArray) rfl (by kernel_rfl) (by kernel_rfl) (by kernel_rfl) (fun _ _ _ h => h) (yieldsIf_load_mid rfl 23 _ rfl w1.heap.size 0 rfl (ys.map cell) (.array 512 5) (fun _ h => h) Try.underlying23 rfl (by rw [size23, List.length_map, HY.out])) hS ?_
    refine wpAnyH_ready (rs := [1]) (by kernel_rfl) (by simp) (AllReadyH.cons rfl (fun K hK => ?_) AllReadyH.nil)
    simp only [Act.put, List.setIfInBounds_toArray, List.set_cons_zero, List.set_cons_succ, List.getElem_toArray, List.getElem_cons_succ, List.getElem_cons_zero]
    go_simp
    go_wp2_with fail
    refine (reads_any _ ys _ HP4.out).mono ?_
    rintro e w5 ⟨rfl, hg⟩
    have HG5 := hidden (HG4.out.trans hg)
    have HP5 := hidden (HP4.out.kept hg)
    have HQ5 := hidden (HQ4.out.kept hg)
    have HR5 := hidden (rangeAt_kept HR4.out hg)
    clear hg HP4 HQ4 HG4 HR4 hS
    go_wp2
    refine hK.out _ _ HR5.out (fun hS => ?_)
    clear hK K
    refine wpAnyH_take (i := 3) (v := .bool false) rfl (by kernel_rfl) (by kernel_rfl) (by kernel_rfl) (fun _ _ _ h => h) (Or.inl ⟨rfl, fun w _ => exec_neq HY.out _ _ _ _ rfl rfl rfl w⟩) hS ?_
    refine wpAnyH_done (by kernel_rfl) ?_ _
    simp only [Act.put, List.setIfInBounds_toArray, List.set_cons_zero, List.set_cons_succ, List.getElem_toArray, List.getElem_cons_succ, List.getElem_cons_zero]
    clear hS
    have hpn := ptr_neq
    go_wp2_with fail
    refine (zz_same f1 _ _ _ HQ5.out (pre_zero HX.out f1)).mono ?_
    rintro e w6 ⟨rfl, hg⟩
    have HG6 := hidden (HG5.out.trans hg)
    have HP6 := hidden (HP5.out.kept hg)
    clear hg HG5 HP5 HQ5 HR5
    go_wp2_with fail
    refine (zz_same _ _ _ _ HP6.out (zero_at HX.out HYE.out HM.out)).mono ?_
    rintro e w7 ⟨rfl, hg⟩
    have HG7 := hidden (HG6.out.trans hg)
    clear hg HG6 HP6
    go_wp2
    go_ret
    exact ⟨rfl, HG7.out⟩
  · have hltI : ¬ (f2 : Int) < (f1 : Int) := by omega
    have HM : Hid (f1 = min f1 f2) := by unfold Hid; omega
    clear hlt
    go_upto_region 9 with fail
    go_wp2_with fail
    refine (pfx_any _ _ xs _ HP.out).mono ?_
    rintro e w1 ⟨rfl, hg⟩
    have HG1 := hidden (HG.out.trans hg)
    have HP1 := hidden (HP.out.kept hg)
    clear hg HP HG
    obtain ⟨ys, hys⟩ : ∃ ys, ys = pre xs (min f1 f2) := ⟨_, rfl⟩
    have HYE := hidden hys
    rw [(congrArg (pre xs) HM.out).trans hys.symm]
    clear hys
    have HY : Hid (ys.length = 512) := by rw [HYE.out]; exact pre_len HX.out _
    have HS : Hid (Z.size = (ys.map cell).toArray.size) := by unfold Hid; rw [HZs.out, List.size_toArray, List.length_map, HY.out]
    go_upto_region 10 with (refine wpList_store_new rfl 23 _ _ rfl Z (ys.map cell).toArray rfl rfl (bytes_size HY.out) HS.out (bytes_one ys) ?_)
    obtain ⟨w2, hw2⟩ : ∃ w2, w2 = w1.alloc (.cells (ys.map cell).toArray 23) := ⟨_, rfl⟩
    have hg : w1.grownBy w2 none := by rw [hw2]; exact World.grownBy_alloc _ _ _
    have HR : Hid (w2.rangeAt w1.heap.size 0 (ys.map cell)) := by rw [hw2]; exact range_row (heap_alloc_last w1 _)
    have HG2 := hidden (HG1.out.trans hg)
    have HP2 := hidden (HP1.out.kept hg)
    rw [← hw2]
    clear hg HP1 HG1 hw2 hZ HS HZs
    go_wp2_with fail
    refine (zz_ptr f1 _ xs _ HP2.out).mono ?_
    rintro e w3 ⟨hg, a1, rfl, hp⟩
    have HG3 := hidden (HG2.out.trans hg)
    have HP3 := hidden hp
    have HR3 := hidden (rangeAt_kept HR.out hg)
    clear hg hp HP2 HG2 HR
    go_wp2_with fail
    refine (zz_ptr f2 _ _ _ HP3.out).mono ?_
    rintro e w4 ⟨hg, a2, rfl, hp⟩
    rw [pre_pre HX.out, ← HYE.out] at hp
    have hg := hg.trans (grown_drew w4)
    have HG4 := hidden (HG3.out.trans hg)
    have HP4 := hidden (hp.kept (grown_drew w4))
    have HQ4 := hidden (HP3.out.kept hg)
    have HR4 := hidden (rangeAt_kept HR3.out hg)
    clear hg hp HP3 HG3 HR3
    go_upto_region 12 with fail
    refine wp_region_held_drew (S := fun w' => w'.rangeAt w1.heap.size 0 (ys.map cell)) (by kernel_rfl) HR4.out (fun hS => ?_)
    refine wpAnyH_take (i := 0) (v := .pointer a2) rfl (by kernel_rfl) (by kernel_rfl) (by kernel_rfl) (fun _ _ _ h => h) (Or.inl ⟨rfl, fun _ _ => rfl⟩) hS ?_
    refine wpAnyH_take (i := 2) (v := .agg (ys.map cell).toArray) rfl (by kernel_rfl) (by kernel_rfl) (by kernel_rfl) (fun _ _ _ h => h) (yieldsIf_load_mid rfl 23 _ rfl w1.heap.size 0 rfl (ys.map cell) (.array 512 5) (fun _ h => h) Try.underlying23 rfl (by rw [size23, List.length_map, HY.out])) hS ?_
    refine wpAnyH_ready (rs := [1]) (by kernel_rfl) (by simp) (AllReadyH.cons rfl (fun K hK => ?_) AllReadyH.nil)
    simp only [Act.put, List.setIfInBounds_toArray, List.set_cons_zero, List.set_cons_succ, List.getElem_toArray, List.getElem_cons_succ, List.getElem_cons_zero]
    go_simp
    go_wp2_with fail
    refine (reads_any _ ys _ HP4.out).mono ?_
    rintro e w5 ⟨rfl, hg⟩
    have HG5 := hidden (HG4.out.trans hg)
    have HP5 := hidden (HP4.out.kept hg)
    have HQ5 := hidden (HQ4.out.kept hg)
    have HR5 := hidden (rangeAt_kept HR4.out hg)
    clear hg HP4 HQ4 HG4 HR4 hS
    go_wp2
    refine hK.out _ _ HR5.out (fun hS => ?_)
    clear hK K
    refine wpAnyH_take (i := 3) (v := .bool false) rfl (by kernel_rfl) (by kernel_rfl) (by kernel_rfl) (fun _ _ _ h => h) (Or.inl ⟨rfl, fun w _ => exec_neq HY.out _ _ _ _ rfl rfl rfl w⟩) hS ?_
    refine wpAnyH_done (by kernel_rfl) ?_ _
    simp only [Act.put, List.setIfInBounds_toArray, List.set_cons_zero, List.set_cons_succ, List.getElem_toArray, List.getElem_cons_succ, List.getElem_cons_zero]
    clear hS
    have hpn := ptr_neq
    go_wp2_with fail
    refine (zz_same f1 _ _ _ HQ5.out (pre_zero HX.out f1)).mono ?_
    rintro e w6 ⟨rfl, hg⟩
    have HG6 := hidden (HG5.out.trans hg)
    have HP6 := hidden (HP5.out.kept hg)
    clear hg HG5 HP5 HQ5 HR5
    go_wp2_with fail
    refine (zz_same _ _ _ _ HP6.out (zero_at HX.out HYE.out HM.out)).mono ?_
    rintro e w7 ⟨rfl, hg⟩
    have HG7 := hidden (HG6.out.trans hg)
    clear hg HG6 HP6
    go_wp2
    go_ret
    exact ⟨rfl, HG7.out⟩

set_option maxRecDepth 20000 in
set_option maxHeartbeats 3200000 in
theorem law_some (b off f1 f2 : Nat) (xs : List UInt8) (hx : xs.length = 512) (w : World) (h : w.rangeAt b off (xs.map cell)) :
    Calls Try.prog 3 #[.pointer (some ⟨b, off, none⟩), .int .i64 f1, .int .i64 f2] w fun e w' => e = .returned (.bool true) ∧ w.grownBy w' none := by
  obtain ⟨Z, hZe, hZs, -, hZ⟩ := zeros
  have hf1 : ¬ (f1 : Int) < 0 := by omega
  have hf2 : ¬ (f2 : Int) < 0 := by omega
  have HX : Hid (xs.length = 512) := hx
  have HB : Hid (w.rangeAt b off (xs.map cell)) := h
  have HZs : Hid (Z.size = 512) := hZs
  have HS0 : Hid (Z.size = (xs.map cell).toArray.size) := by unfold Hid; rw [hZs, List.size_toArray, List.length_map, hx]
  have HP0 : Hid (Ptr (w.alloc (.cells (xs.map cell).toArray 23)) (.pointer (some ⟨w.heap.size, 0, none⟩)) xs) := ptr_new hx
  have HG0 : Hid (w.grownBy (w.alloc (.cells (xs.map cell).toArray 23)) none) := World.grownBy_alloc _ _ _
  clear hZe hZs hx h
  go_enter Try.func3, Try.ntmps3
  by_cases hlt : f2 < f1
  · have hltI : (f2 : Int) < (f1 : Int) := by omega
    have HM : Hid (f2 = min f1 f2) := by unfold Hid; omega
    clear hlt
    go_upto_region 5 with (first | refine wpList_load_mid rfl 23 _ rfl b off rfl (xs.map cell) (.array 512 5) HB.out Try.underlying23 rfl (by rw [size23, List.length_map, HX.out]) ?_ | refine wpList_store_new rfl 23 _ _ rfl Z (xs.map cell).toArray rfl rfl (bytes_size HX.out) HS0.out (bytes_one xs) ?_)
    obtain ⟨W, hW⟩ : ∃ W, W = w.alloc (.cells (xs.map cell).toArray 23) := ⟨_, rfl⟩
    rw [← hW] at HP0 HG0 ⊢
    have HP := HP0
    have HG := HG0
    clear hW HP0 HG0 HS0 HB
    go_upto_region 9 with fail
    go_wp2_with fail
    refine (pfx_any _ _ xs _ HP.out).mono ?_
    rintro e w1 ⟨rfl, hg⟩
    have HG1 := hidden (HG.out.trans hg)
    have HP1 := hidden (HP.out.kept hg)
    clear hg HP HG
    obtain ⟨ys, hys⟩ : ∃ ys, ys = pre xs (min f1 f2) := ⟨_, rfl⟩
    have HYE := hidden hys
    rw [(congrArg (pre xs) HM.out).trans hys.symm]
    clear hys
    have HY : Hid (ys.length = 512) := by rw [HYE.out]; exact pre_len HX.out _
    have HS : Hid (Z.size = (ys.map cell).toArray.size) := by unfold Hid; rw [HZs.out, List.size_toArray, List.length_map, HY.out]
    go_upto_region 10 with (refine wpList_store_new rfl 23 _ _ rfl Z (ys.map cell).toArray rfl rfl (bytes_size HY.out) HS.out (bytes_one ys) ?_)
    obtain ⟨w2, hw2⟩ : ∃ w2, w2 = w1.alloc (.cells (ys.map cell).toArray 23) := ⟨_, rfl⟩
    have hg : w1.grownBy w2 none := by rw [hw2]; exact World.grownBy_alloc _ _ _
    have HR : Hid (w2.rangeAt w1.heap.size 0 (ys.map cell)) := by rw [hw2]; exact range_row (heap_alloc_last w1 _)
    have HG2 := hidden (HG1.out.trans hg)
    have HP2 := hidden (HP1.out.kept hg)
    rw [← hw2]
    clear hg HP1 HG1 hw2 hZ HS HZs
    go_wp2_with fail
    refine (zz_ptr f1 _ xs _ HP2.out).mono ?_
    rintro e w3 ⟨hg, a1, rfl, hp⟩
    have HG3 := hidden (HG2.out.trans hg)
    have HP3 := hidden hp
    have HR3 := hidden (rangeAt_kept HR.out hg)
    clear hg hp HP2 HG2 HR
    go_wp2_with fail
    refine (zz_ptr f2 _ _ _ HP3.out).mono ?_
    rintro e w4 ⟨hg, a2, rfl, hp⟩
    rw [pre_pre HX.out, ← HYE.out] at hp
    have hg := hg.trans (grown_drew w4)
    have HG4 := hidden (HG3.out.trans hg)
    have HP4 := hidden (hp.kept (grown_drew w4))
    have HQ4 := hidden (HP3.out.kept hg)
    have HR4 := hidden (rangeAt_kept HR3.out hg)
    clear hg hp HP3 HG3 HR3
    go_upto_region 12 with fail
    refine wp_region_held_drew (S := fun w' => w'.rangeAt w1.heap.size 0 (ys.map cell)) (by kernel_rfl) HR4.out (fun hS => ?_)
    refine wpAnyH_take (i := 0) (v := .pointer a2) rfl (by kernel_rfl) (by kernel_rfl) (by kernel_rfl) (fun _ _ _ h => h) (Or.inl ⟨rfl, fun _ _ => rfl⟩) hS ?_
    refine wpAnyH_take (i := 2) (v := .agg (ys.map cell).toArray) rfl (by kernel_rfl) (by kernel_rfl) (by kernel_rfl) (fun _ _ _ h => h) (yieldsIf_load_mid rfl 23 _ rfl w1.heap.size 0 rfl (ys.map cell) (.array 512 5) (fun _ h => h) Try.underlying23 rfl (by rw [size23, List.length_map, HY.out])) hS ?_
    refine wpAnyH_ready (rs := [1]) (by kernel_rfl) (by simp) (AllReadyH.cons rfl (fun K hK => ?_) AllReadyH.nil)
    simp only [Act.put, List.setIfInBounds_toArray, List.set_cons_zero, List.set_cons_succ, List.getElem_toArray, List.getElem_cons_succ, List.getElem_cons_zero]
    go_simp
    go_wp2_with fail
    refine (reads_any _ ys _ HP4.out).mono ?_
    rintro e w5 ⟨rfl, hg⟩
    have HG5 := hidden (HG4.out.trans hg)
    have HP5 := hidden (HP4.out.kept hg)
    have HQ5 := hidden (HQ4.out.kept hg)
    have HR5 := hidden (rangeAt_kept HR4.out hg)
    clear hg HP4 HQ4 HG4 HR4 hS
    go_wp2
    refine hK.out _ _ HR5.out (fun hS => ?_)
    clear hK K
    refine wpAnyH_take (i := 3) (v := .bool false) rfl (by kernel_rfl) (by kernel_rfl) (by kernel_rfl) (fun _ _ _ h => h) (Or.inl ⟨rfl, fun w _ => exec_neq HY.out _ _ _ _ rfl rfl rfl w⟩) hS ?_
    refine wpAnyH_done (by kernel_rfl) ?_ _
    simp only [Act.put, List.setIfInBounds_toArray, List.set_cons_zero, List.set_cons_succ, List.getElem_toArray, List.getElem_cons_succ, List.getElem_cons_zero]
    clear hS
    have hpn := ptr_neq
    go_wp2_with fail
    refine (zz_same f1 _ _ _ HQ5.out (pre_zero HX.out f1)).mono ?_
    rintro e w6 ⟨rfl, hg⟩
    have HG6 := hidden (HG5.out.trans hg)
    have HP6 := hidden (HP5.out.kept hg)
    clear hg HG5 HP5 HQ5 HR5
    go_wp2_with fail
    refine (zz_same _ _ _ _ HP6.out (zero_at HX.out HYE.out HM.out)).mono ?_
    rintro e w7 ⟨rfl, hg⟩
    have HG7 := hidden (HG6.out.trans hg)
    clear hg HG6 HP6
    go_wp2
    go_ret
    exact ⟨rfl, HG7.out⟩
  · have hltI : ¬ (f2 : Int) < (f1 : Int) := by omega
    have HM : Hid (f1 = min f1 f2) := by unfold Hid; omega
    clear hlt
    go_upto_region 5 with (first | refine wpList_load_mid rfl 23 _ rfl b off rfl (xs.map cell) (.array 512 5) HB.out Try.underlying23 rfl (by rw [size23, List.length_map, HX.out]) ?_ | refine wpList_store_new rfl 23 _ _ rfl Z (xs.map cell).toArray rfl rfl (bytes_size HX.out) HS0.out (bytes_one xs) ?_)
    obtain ⟨W, hW⟩ : ∃ W, W = w.alloc (.cells (xs.map cell).toArray 23) := ⟨_, rfl⟩
    rw [← hW] at HP0 HG0 ⊢
    have HP := HP0
    have HG := HG0
    clear hW HP0 HG0 HS0 HB
    go_upto_region 9 with fail
    go_wp2_with fail
    refine (pfx_any _ _ xs _ HP.out).mono ?_
    rintro e w1 ⟨rfl, hg⟩
    have HG1 := hidden (HG.out.trans hg)
    have HP1 := hidden (HP.out.kept hg)
    clear hg HP HG
    obtain ⟨ys, hys⟩ : ∃ ys, ys = pre xs (min f1 f2) := ⟨_, rfl⟩
    have HYE := hidden hys
    rw [(congrArg (pre xs) HM.out).trans hys.symm]
    clear hys
    have HY : Hid (ys.length = 512) := by rw [HYE.out]; exact pre_len HX.out _
    have HS : Hid (Z.size = (ys.map cell).toArray.size) := by unfold Hid; rw [HZs.out, List.size_toArray, List.length_map, HY.out]
    go_upto_region 10 with (refine wpList_store_new rfl 23 _ _ rfl Z (ys.map cell).toArray rfl rfl (bytes_size HY.out) HS.out (bytes_one ys) ?_)
    obtain ⟨w2, hw2⟩ : ∃ w2, w2 = w1.alloc (.cells (ys.map cell).toArray 23) := ⟨_, rfl⟩
    have hg : w1.grownBy w2 none := by rw [hw2]; exact World.grownBy_alloc _ _ _
    have HR : Hid (w2.rangeAt w1.heap.size 0 (ys.map cell)) := by rw [hw2]; exact range_row (heap_alloc_last w1 _)
    have HG2 := hidden (HG1.out.trans hg)
    have HP2 := hidden (HP1.out.kept hg)
    rw [← hw2]
    clear hg HP1 HG1 hw2 hZ HS HZs
    go_wp2_with fail
    refine (zz_ptr f1 _ xs _ HP2.out).mono ?_
    rintro e w3 ⟨hg, a1, rfl, hp⟩
    have HG3 := hidden (HG2.out.trans hg)
    have HP3 := hidden hp
    have HR3 := hidden (rangeAt_kept HR.out hg)
    clear hg hp HP2 HG2 HR
    go_wp2_with fail
    refine (zz_ptr f2 _ _ _ HP3.out).mono ?_
    rintro e w4 ⟨hg, a2, rfl, hp⟩
    rw [pre_pre HX.out, ← HYE.out] at hp
    have hg := hg.trans (grown_drew w4)
    have HG4 := hidden (HG3.out.trans hg)
    have HP4 := hidden (hp.kept (grown_drew w4))
    have HQ4 := hidden (HP3.out.kept hg)
    have HR4 := hidden (rangeAt_kept HR3.out hg)
    clear hg hp HP3 HG3 HR3
    go_upto_region 12 with fail
    refine wp_region_held_drew (S := fun w' => w'.rangeAt w1.heap.size 0 (ys.map cell)) (by kernel_rfl) HR4.out (fun hS => ?_)
    refine wpAnyH_take (i := 0) (v := .pointer a2) rfl (by kernel_rfl) (by kernel_rfl) (by kernel_rfl) (fun _ _ _ h => h) (Or.inl ⟨rfl, fun _ _ => rfl⟩) hS ?_
    refine wpAnyH_take (i := 2) (v := .agg (ys.map cell).toArray) rfl (by kernel_rfl) (by kernel_rfl) (by kernel_rfl) (fun _ _ _ h => h) (yieldsIf_load_mid rfl 23 _ rfl w1.heap.size 0 rfl (ys.map cell) (.array 512 5) (fun _ h => h) Try.underlying23 rfl (by rw [size23, List.length_map, HY.out])) hS ?_
    refine wpAnyH_ready (rs := [1]) (by kernel_rfl) (by simp) (AllReadyH.cons rfl (fun K hK => ?_) AllReadyH.nil)
    simp only [Act.put, List.setIfInBounds_toArray, List.set_cons_zero, List.set_cons_succ, List.getElem_toArray, List.getElem_cons_succ, List.getElem_cons_zero]
    go_simp
    go_wp2_with fail
    refine (reads_any _ ys _ HP4.out).mono ?_
    rintro e w5 ⟨rfl, hg⟩
    have HG5 := hidden (HG4.out.trans hg)
    have HP5 := hidden (HP4.out.kept hg)
    have HQ5 := hidden (HQ4.out.kept hg)
    have HR5 := hidden (rangeAt_kept HR4.out hg)
    clear hg HP4 HQ4 HG4 HR4 hS
    go_wp2
    refine hK.out _ _ HR5.out (fun hS => ?_)
    clear hK K
    refine wpAnyH_take (i := 3) (v := .bool false) rfl (by kernel_rfl) (by kernel_rfl) (by kernel_rfl) (fun _ _ _ h => h) (Or.inl ⟨rfl, fun w _ => exec_neq HY.out _ _ _ _ rfl rfl rfl w⟩) hS ?_
    refine wpAnyH_done (by kernel_rfl) ?_ _
    simp only [Act.put, List.setIfInBounds_toArray, List.set_cons_zero, List.set_cons_succ, List.getElem_toArray, List.getElem_cons_succ, List.getElem_cons_zero]
    clear hS
    have hpn := ptr_neq
    go_wp2_with fail
    refine (zz_same f1 _ _ _ HQ5.out (pre_zero HX.out f1)).mono ?_
    rintro e w6 ⟨rfl, hg⟩
    have HG6 := hidden (HG5.out.trans hg)
    have HP6 := hidden (HP5.out.kept hg)
    clear hg HG5 HP5 HQ5 HR5
    go_wp2_with fail
    refine (zz_same _ _ _ _ HP6.out (zero_at HX.out HYE.out HM.out)).mono ?_
    rintro e w7 ⟨rfl, hg⟩
    have HG7 := hidden (HG6.out.trans hg)
    clear hg HG6 HP6
    go_wp2
    go_ret
    exact ⟨rfl, HG7.out⟩
end Go.Proofs.Qxb6605534a
