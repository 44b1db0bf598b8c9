/-
  'zzPrefix' and 'zzReadsAs' by their contracts.
-/
import Derived.Test.Qxb6605534aZero
namespace Go.Proofs.Qxb6605534a
open Go.RowKit
open Extern.Stop (cell)

theorem pre_step {xs : List UInt8} (h : xs.length = 512) (k : Nat) (hk : k < 512) : (pre xs k).set k (xs.getD k 0) = pre xs (k + 1) := by
  apply pre_ext (by rw [List.length_set]; exact pre_len h k) (pre_len h _)
  intro j hj
  rw [List.getElem?_set, pre_get h k j hj, pre_get h _ j hj, pre_len h k]
  by_cases h1 : k = j
  · subst h1
    rw [if_pos rfl, if_pos hk, if_pos (by omega), List.getElem?_eq_getElem (by omega)]
    simp [List.getD, List.getElem?_eq_getElem (show k < xs.length by omega)]
  · rw [if_neg h1]
    by_cases h2 : j < k
    · rw [if_pos h2, if_pos (by omega)]
    · rw [if_neg h2, if_neg (by omega)]

theorem pre_all {xs : List UInt8} (h : xs.length = 512) (m : Nat) : pre xs (min 512 m) = pre xs m := by
  apply pre_ext (pre_len h _) (pre_len h _)
  intro j hj
  rw [pre_get h _ j hj, pre_get h _ j hj]
  by_cases h2 : j < m
  · rw [if_pos h2, if_pos (by omega)]
  · rw [if_neg h2, if_neg (by omega)]

theorem pre_nil (xs : List UInt8) : pre xs 0 = List.replicate 512 0 := by rw [pre, List.take_zero, List.nil_append]

/-- The world inside 'zzPrefix': the result's block, then 'want'. -/
def PW (w wr : World) (ys : List UInt8) : Prop :=
  w.grownBy wr none ∧ wr.rangeAt (w.heap.size + 1) 0 (ys.map cell) ∧ wr.there w.heap.size 0 512 ∧ wr.there (w.heap.size + 1) 0 512

theorem there_row {w : World} {b : Nat} {Z : Array Value} {t : TypeId} (hs : Z.size = 512) (hb : w.heap[b]? = some (.cells Z t (0, 0))) : w.there b 0 512 := by
  intro j hj
  rw [Nat.zero_add]
  refine ⟨?_, ?_⟩
  · rw [cell_of_row _ _ j _ _ _ hb, Array.getElem?_eq_getElem (by omega)]
    rfl
  · simp only [World.frozen?, hb]
    simp

theorem range_row {w : World} {b : Nat} {cs : List Value} {t : TypeId} (hb : w.heap[b]? = some (.cells cs.toArray t (0, 0))) : w.rangeAt b 0 cs := by
  intro j v hv
  rw [Nat.zero_add, cell_of_row _ _ j _ _ _ hb]
  simpa using hv

theorem pw_start (w : World) {Z : Array Value} (hZ : Z = ((List.replicate 512 (0 : UInt8)).map cell).toArray) (hs : Z.size = 512) : PW w ((w.alloc (.cells Z 23)).alloc (.cells Z 23)) (List.replicate 512 0) := by
  have h1 := heap_alloc2_new w (.cells Z 23) (.cells Z 23)
  have h0 : ((w.alloc (.cells Z 23)).alloc (.cells Z 23)).heap[w.heap.size]? = some (.cells Z 23) := by
    rw [heap_alloc_old _ _ (by rw [World.size_alloc]; omega), heap_alloc_new]
  refine ⟨(World.grownBy_alloc w _ none).trans (World.grownBy_alloc _ _ none), ?_, there_row hs h0, there_row hs h1⟩
  rw [hZ] at h1 ⊢
  exact range_row h1

theorem PW.step {w wr : World} {ys : List UInt8} (h : PW w wr ys) (k : Nat) (hk : k < 512) (hy : ys.length = 512) (b : UInt8) : PW w (wr.setCell ⟨w.heap.size + 1, k, none⟩ (.int .u8 ((b.toNat : Nat) : Int))) (ys.set k b) := by
  obtain ⟨hg, hr, h0, h1⟩ := h
  have hc := h1 k hk
  rw [Nat.zero_add] at hc
  obtain ⟨u, hu⟩ := Option.isSome_iff_exists.1 hc.1
  refine ⟨hg.andThen (grown_setCell wr ⟨w.heap.size + 1, k, none⟩ _) (fun j e => by cases e; exact .inl (Nat.le_succ _)), ?_, ?_, ?_⟩
  · intro j v hv
    rw [List.getElem?_map, List.getElem?_set] at hv
    rw [Nat.zero_add]
    by_cases hjk : k = j
    · subst hjk
      rw [if_pos rfl, if_pos (by omega)] at hv
      rw [World.cell?_setCell_same _ _ _ hu]
      exact hv
    · rw [if_neg hjk, ← List.getElem?_map] at hv
      rw [World.cell?_setCell_other _ _ _ _ (by simp)]
      have := hr j v hv
      rw [Nat.zero_add] at this
      exact this
  · intro j hj
    have := h0 j hj
    rw [World.frozen?_setCell, World.cell?_setCell_other _ _ _ _ (by simp)]
    exact this
  · intro j hj
    have := h1 j hj
    rw [World.frozen?_setCell]
    refine ⟨?_, this.2⟩
    by_cases hjk : k = j
    · subst hjk
      rw [Nat.zero_add, World.cell?_setCell_same _ _ _ hu]
      rfl
    · rw [World.cell?_setCell_other _ _ _ _ (by simp)]
      exact this.1

theorem results_cell_mid {P : Program} {fn : Func} {p : Tmp} {ty : TypeId} (h : fn.results = #[.cell p ty]) (tmps : Array Value) (w : World) (g : Nat) (cs : List Value) (d : TypeDesc)
    (hp : tmps.getD p undef = .pointer (some ⟨g, 0, none⟩)) (hc : w.rangeAt g 0 cs)
    (hu : P.underlying ty = some d) (hd : d.isRow = true) (hi : (P.info? ty).map (·.size) = some cs.length) :
    (results fn tmps).run P w = .ok (.agg cs.toArray) w := by
  have hp' : tmps[p]?.getD undef = .pointer (some ⟨g, 0, none⟩) := by simpa using hp
  simp [results, h, hp', asAddr, run_loadVar_mid w g 0 ty cs d hc hu hd hi]

theorem PW.done {w wr : World} {ys : List UInt8} (h : PW w wr ys) (hy : ys.length = 512) : w.grownBy (wr.setCells w.heap.size 0 (ys.map cell)) none ∧ (wr.setCells w.heap.size 0 (ys.map cell)).rangeAt w.heap.size 0 (ys.map cell) :=
  ⟨h.1.andThen (grown_setCells w.heap.size _ 0 _) (fun j e => by cases e; exact .inl (Nat.le_refl _)), World.rangeAt_setCells_same _ _ _ _ (by rw [List.length_map, hy]; exact h.2.2.1)⟩

theorem PW.there {w wr : World} {ys : List UInt8} (h : PW w wr ys) (hy : ys.length = 512) : wr.there w.heap.size 0 (ys.map cell).toArray.size := by
  have e : (ys.map cell).toArray.size = 512 := by rw [List.size_toArray, List.length_map, hy]
  rw [e]
  exact h.2.2.1

theorem bytes_size {ys : List UInt8} (hy : ys.length = 512) : (Try.prog.info? 23).map (·.size) = some (ys.map cell).toArray.size := by rw [size23, List.size_toArray, List.length_map, hy]

theorem pfx_ret {ys : List UInt8} {w wr : World} {a : Act} (h : PW w wr ys) (hy : ys.length = 512) (hp : a.tmps.getD 4 undef = .pointer (some ⟨w.heap.size, 0, none⟩)) (hd : a.defers = []) :
    bodyPost Try.prog Try.f4 (fun e w' => e = .returned (.agg (ys.map cell).toArray) ∧ w.grownBy w' none) .ret a (wr.setCells w.heap.size 0 (ys.map cell)) := by
  have hD := h.done hy
  refine bodyPost_ret (v := .agg (ys.map cell).toArray) ?_ hd ⟨rfl, hD.1⟩
  exact results_cell_mid (by kernel_rfl) _ _ w.heap.size _ (.array 512 5) hp hD.2 Try.underlying23 rfl (by rw [size23, List.length_map, hy])

set_option maxRecDepth 20000 in
set_option maxHeartbeats 800000 in
theorem pfx_nil (m : Nat) (xs : List UInt8) (hxs : xs = List.replicate 512 0) (w : World) :
    Calls Try.prog 4 #[.pointer none, .int .i64 m] w fun e w' => e = .returned (.agg (xs.map cell).toArray) ∧ w.grownBy w' none := by
  obtain ⟨Z, hZe, hZs, -, hZ⟩ := zeros
  have HP : Hid (PW w ((w.alloc (.cells Z 23)).alloc (.cells Z 23)) xs) := by rw [hxs]; exact pw_start w hZe hZs
  have HL : Hid (xs.length = 512) := by rw [hxs]; exact List.length_replicate ..
  clear hZe hZs hxs
  go_enter Try.func4, Try.ntmps4
  go_upto_region 3 with fail
  obtain ⟨W, hW⟩ : ∃ W, W = (w.alloc (.cells Z 23)).alloc (.cells Z 23) := ⟨_, rfl⟩
  rw [← hW] at HP ⊢
  clear hW
  go_wp2_with (first | refine wpList_load_mid rfl 23 _ rfl (w.heap.size + 1) 0 rfl (xs.map cell) (.array 512 5) HP.out.2.1 Try.underlying23 rfl (by rw [size23, List.length_map, HL.out]) ?_ | refine wpList_store_mid rfl 23 _ _ rfl w.heap.size 0 (xs.map cell).toArray rfl rfl (HP.out.there HL.out) (bytes_size HL.out) (bytes_one _) ?_)
  exact pfx_ret HP.out HL.out rfl rfl

set_option maxRecDepth 20000 in
set_option maxHeartbeats 1600000 in
theorem pfx_some (m g : Nat) (xs : List UInt8) (hx : xs.length = 512) (w : World) (h : w.rangeAt g 0 (xs.map cell)) :
    Calls Try.prog 4 #[.pointer (some ⟨g, 0, none⟩), .int .i64 m] w fun e w' => e = .returned (.agg ((pre xs m).map cell).toArray) ∧ w.grownBy w' none := by
  obtain ⟨Z, hZe, hZs, -, hZ⟩ := zeros
  have HP : Hid (PW w ((w.alloc (.cells Z 23)).alloc (.cells Z 23)) (pre xs 0)) := by rw [pre_nil]; exact pw_start w hZe hZs
  have HL : Hid (xs.length = 512) := hx
  have HR : Hid (w.rangeAt g 0 (xs.map cell)) := h
  clear hZe hZs h hx
  go_enter Try.func4, Try.ntmps4
  go_upto_region 4 with fail
  obtain ⟨W, hW⟩ : ∃ W, W = (w.alloc (.cells Z 23)).alloc (.cells Z 23) := ⟨_, rfl⟩
  rw [← hW] at HP ⊢
  clear hW hZ
  go_wp2
  go_loopw [6] (fun v wr => ∃ k : Nat, v = .int .i64 k ∧ k ≤ 512 ∧ Hid (PW w wr (pre xs (min k m)))) (fun v _ => 512 - (intOf v).toNat)
  case atStart => exact ⟨0, rfl, by omega, by rw [Nat.zero_min]; exact HP⟩
  case round =>
    obtain ⟨k, rfl, hk, hP⟩ := hrel
    by_cases hk2 : k < 512
    · have hkI : (k : Int) < 512 := by omega
      by_cases hm : k < m
      · have hmI : (k : Int) < (m : Int) := by omega
        have hc := cell_at (rangeAt_kept HR.out hP.out.1) HL.out k hk2
        have ht := hP.out.2.2.2 k hk2
        rw [Nat.zero_add] at ht
        obtain ⟨u, hu⟩ := Option.isSome_iff_exists.1 ht.1
        have hf := ht.2
        have HS : Hid (PW w (wr.setCell ⟨w.heap.size + 1, k, none⟩ (.int .u8 ((xs.getD k 0).toNat : Int))) (pre xs (min (k + 1) m))) := by
          have := hP.out.step k hk2 (pre_len HL.out _) (xs.getD k 0)
          rw [show min k m = k by omega, pre_step HL.out k hk2] at this
          rw [show min (k + 1) m = k + 1 by omega]
          exact this
        clear hP ht hk hk2 hm
        go_wp2
        go_roundw
        case rel => exact ⟨k + 1, by go_num, by omega, HS⟩
        case measure => simp [intOf]; omega
      · have hmI : ¬ (k : Int) < (m : Int) := by omega
        have HS : Hid (PW w wr (pre xs (min (k + 1) m))) := by
          rw [show min (k + 1) m = min k m by omega]
          exact hP
        clear hP hm
        go_wp2
        go_roundw
        case rel => exact ⟨k + 1, by go_num, by omega, HS⟩
        case measure => simp [intOf]; omega
    · have e : k = 512 := by omega
      subst e
      have HD : Hid (PW w wr (pre xs m)) := by rw [← pre_all HL.out]; exact hP
      clear hP
      obtain ⟨ys, hys⟩ : ∃ ys, ys = pre xs m := ⟨_, rfl⟩
      have HY : Hid (ys.length = 512) := by rw [hys]; exact pre_len HL.out m
      rw [← hys] at HD
      have HYE : Hid (ys = pre xs m) := hys
      clear hys
      go_wp2_with (first | refine wpList_load_mid rfl 23 _ rfl (w.heap.size + 1) 0 rfl (ys.map cell) (.array 512 5) HD.out.2.1 Try.underlying23 rfl (by rw [size23, List.length_map, HY.out]) ?_ | refine wpList_store_mid rfl 23 _ _ rfl w.heap.size 0 (ys.map cell).toArray rfl rfl (HD.out.there HY.out) (bytes_size HY.out) (bytes_one _) ?_)
      rw [← HYE.out]
      exact pfx_ret HD.out HY.out rfl rfl

/-- 'zzPrefix'. -/
theorem pfx_any (m : Nat) (v : Value) (xs : List UInt8) (w : World) (h : Ptr w v xs) :
    Calls Try.prog 4 #[v, .int .i64 m] w fun e w' => e = .returned (.agg ((pre xs m).map cell).toArray) ∧ w.grownBy w' none := by
  obtain ⟨hx, (⟨rfl, rfl⟩ | ⟨g, rfl, h⟩)⟩ := h
  · rw [zeros_pre]
    exact pfx_nil m _ rfl w
  · exact pfx_some m g xs hx w h

theorem reads_ret {ys : List UInt8} {w wr : World} {a : Act} (h : PW w wr (List.replicate 512 0)) (hy : ys.length = 512) (hp : a.tmps.getD 2 undef = .pointer (some ⟨w.heap.size, 0, none⟩)) (hd : a.defers = []) :
    bodyPost Try.prog Try.f6 (fun e w' => e = .returned (.agg (ys.map cell).toArray) ∧ w.grownBy w' none) .ret a (wr.setCells w.heap.size 0 (ys.map cell)) := by
  refine bodyPost_ret (v := .agg (ys.map cell).toArray) ?_ hd ⟨rfl, h.1.andThen (grown_setCells w.heap.size _ 0 _) (fun j e => by cases e; exact .inl (Nat.le_refl _))⟩
  exact results_cell_mid (by kernel_rfl) _ _ w.heap.size _ (.array 512 5) hp (World.rangeAt_setCells_same _ _ _ _ (by rw [List.length_map, hy]; exact h.2.2.1)) Try.underlying23 rfl (by rw [size23, List.length_map, hy])

theorem there_any {w wr : World} {zs ys : List UInt8} (h : PW w wr zs) (hy : ys.length = 512) : wr.there w.heap.size 0 (ys.map cell).toArray.size := by
  have e : (ys.map cell).toArray.size = 512 := by rw [List.size_toArray, List.length_map, hy]
  rw [e]
  exact h.2.2.1

set_option maxRecDepth 20000 in
set_option maxHeartbeats 800000 in
theorem reads_nil (xs : List UInt8) (hxs : xs = List.replicate 512 0) (w : World) :
    Calls Try.prog 6 #[.pointer none] w fun e w' => e = .returned (.agg (xs.map cell).toArray) ∧ w.grownBy w' none := by
  obtain ⟨Z, hZe, hZs, -, hZ⟩ := zeros
  have HQ : Hid (PW w ((w.alloc (.cells Z 23)).alloc (.cells Z 23)) (List.replicate 512 0)) := pw_start w hZe hZs
  have HP : Hid (PW w ((w.alloc (.cells Z 23)).alloc (.cells Z 23)) xs) := by rw [hxs]; exact pw_start w hZe hZs
  have HL : Hid (xs.length = 512) := by rw [hxs]; exact List.length_replicate ..
  clear hZe hZs hxs
  go_enter Try.func6, Try.ntmps6
  go_upto_region 3 with fail
  obtain ⟨W, hW⟩ : ∃ W, W = (w.alloc (.cells Z 23)).alloc (.cells Z 23) := ⟨_, rfl⟩
  rw [← hW] at HP HQ ⊢
  clear hW
  go_wp2_with (first | refine wpList_load_mid rfl 23 _ rfl (w.heap.size + 1) 0 rfl (xs.map cell) (.array 512 5) HP.out.2.1 Try.underlying23 rfl (by rw [size23, List.length_map, HL.out]) ?_ | refine wpList_store_mid rfl 23 _ _ rfl w.heap.size 0 (xs.map cell).toArray rfl rfl (HP.out.there HL.out) (bytes_size HL.out) (bytes_one _) ?_)
  exact reads_ret HQ.out HL.out rfl rfl

set_option maxRecDepth 20000 in
set_option maxHeartbeats 800000 in
theorem reads_some (g : Nat) (xs : List UInt8) (hx : xs.length = 512) (w : World) (h : w.rangeAt g 0 (xs.map cell)) :
    Calls Try.prog 6 #[.pointer (some ⟨g, 0, none⟩)] w fun e w' => e = .returned (.agg (xs.map cell).toArray) ∧ w.grownBy w' none := by
  obtain ⟨Z, hZe, hZs, -, hZ⟩ := zeros
  have HP : Hid (PW w ((w.alloc (.cells Z 23)).alloc (.cells Z 23)) (List.replicate 512 0)) := pw_start w hZe hZs
  have HL : Hid (xs.length = 512) := hx
  have HR : Hid (((w.alloc (.cells Z 23)).alloc (.cells Z 23)).rangeAt g 0 (xs.map cell)) := rangeAt_kept h HP.out.1
  clear hZe hZs h hx
  go_enter Try.func6, Try.ntmps6
  go_upto_region 4 with fail
  obtain ⟨W, hW⟩ : ∃ W, W = (w.alloc (.cells Z 23)).alloc (.cells Z 23) := ⟨_, rfl⟩
  rw [← hW] at HP HR ⊢
  clear hW
  go_wp2_with (first | refine wpList_load_mid rfl 23 _ rfl g 0 rfl (xs.map cell) (.array 512 5) HR.out Try.underlying23 rfl (by rw [size23, List.length_map, HL.out]) ?_ | refine wpList_store_mid rfl 23 _ _ rfl w.heap.size 0 (xs.map cell).toArray rfl rfl (there_any HP.out HL.out) (bytes_size HL.out) (bytes_one _) ?_)
  exact reads_ret HP.out HL.out rfl rfl

/-- 'zzReadsAs'. -/
theorem reads_any (v : Value) (xs : List UInt8) (w : World) (h : Ptr w v xs) :
    Calls Try.prog 6 #[v] w fun e w' => e = .returned (.agg (xs.map cell).toArray) ∧ w.grownBy w' none := by
  obtain ⟨hx, (⟨rfl, rfl⟩ | ⟨g, rfl, h⟩)⟩ := h
  · exact reads_nil _ rfl w
  · exact reads_some g xs hx w h
end Go.Proofs.Qxb6605534a
