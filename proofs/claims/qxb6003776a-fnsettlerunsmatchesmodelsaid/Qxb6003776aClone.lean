/-
  'cloneInts', 'cloneBools', 'cloneInt32s' by their contracts.
-/
import Derived.Test.Qxb6003776aRows
import Derived.WalkKit
import Derived.WalkSpells
import Derived.WalkLawsBesides
import Derived.Laws.CopyOwn
namespace Go.Proofs.Qxb6003776a
open Go.RowKit

theorem Try.info3 : (Try.prog.info? 3).map (fun i => (i.zero, i.size, i.bytes)) = some (some (.int .i64 0), 1, 8) := by kernel_rfl
theorem Try.info4 : (Try.prog.info? 4).map (fun i => (i.zero, i.size, i.bytes)) = some (some (.bool false), 1, 1) := by kernel_rfl
theorem Try.info21 : (Try.prog.info? 21).map (fun i => (i.zero, i.size, i.bytes)) = some (some (.int .i32 0), 1, 4) := by kernel_rfl

/-- The first n cells at the address ao hold V 0, V 1, .. -/
def Cells (w : World) (ao : Option Addr) (n : Nat) (V : Nat → Value) : Prop :=
  ∀ j, j < n → ∃ b off, ao = some ⟨b, off, none⟩ ∧ w.cell? ⟨b, off + j, none⟩ = some (V j)

/-- Block g is a row of type e, no cell of it frozen. -/
abbrev Blk (w : World) (g : Nat) (cur : Array Value) (e : TypeId) : Prop := w.heap[g]? = some (.cells cur e (0, 0))

theorem Cells.below {w w' : World} {B : Nat} {ao : Option Addr} {n : Nat} {V : Nat → Value} (h : Cells w ao n V) (hb : Below B w w') (hB : w.heap.size ≤ B) : Cells w' ao n V := by
  intro j hj
  obtain ⟨b, off, h2, h3⟩ := h j hj
  refine ⟨b, off, h2, ?_⟩
  rw [hb.cell (p := ⟨b, off + j, none⟩) (Nat.lt_of_lt_of_le (World.block_lt_of_cell? w _ h3) hB)]
  exact h3

theorem blk_of_owns {w : World} {base : Nat} {e : TypeId} {g n : Nat} {xs : List Value} (h : w.ownsRow base e 1 (.slice (some ⟨g, 0, none⟩) n n) n xs) : ∃ cur : Array Value, Blk w g cur e ∧ cur.size = n := by
  rcases h.2 with ⟨h', _⟩ | ⟨g', cap', cur, h', _, hg, _, _, hs, _⟩
  · simp at h'
  · simp only [Value.slice.injEq, Option.some.injEq, Addr.mk.injEq, and_true, true_and] at h'
    obtain ⟨rfl, rfl⟩ := h'
    exact ⟨cur, hg, by omega⟩

theorem range_map_some {n j : Nat} {V : Nat → Value} {v : Value} (h : ((List.range n).map V)[j]? = some v) : j < n ∧ V j = v := by
  have hj : j < n := by
    have := (List.getElem?_eq_some_iff.1 h).1
    simpa using this
  refine ⟨hj, ?_⟩
  simpa [hj] using h

set_option maxHeartbeats 400000 in
theorem clone8 (b off n cap : Nat) (V : Nat → Value) (w : World) (hn0 : 0 < n) (hn : n ≤ 1048576) (hV : ∀ j, (V j).oneCell' = true) (hc : Cells w (some ⟨b, off, none⟩) n V) :
    Calls Try.prog 8 #[.slice (some ⟨b, off, none⟩) n cap] w fun e w' => e = .returned (.slice (some ⟨w.heap.size, 0, none⟩) n n) ∧
      (∃ cur : Array Value, Blk w' w.heap.size cur 3 ∧ cur.size = n ∧ ∀ j, j < n → cur[j]? = some (V j)) ∧ Below w.heap.size w w' := by
  have hnil := fun w => Lib.run_eql_slice_nil (P := Try.prog) w 22 3 (some ⟨b, off, none⟩) n cap 0 0 Try.underlying22
  obtain ⟨i0, hi, hz0, hz1, hz2⟩ := info_parts Try.info3
  go_enter Try.func8, Try.ntmps8
  go_wp2_with (at_make; refine wpList_make_full _ rfl _ _ 22 rfl w.heap.size 3 i0 (.int .i64 0) 1 Try.underlying22 hi hz0 hz1 _ _ _ _ n rfl rfl rfl rfl (by rw [hz2]; omega) (by unfold maxLen; omega) (Nat.le_refl _) ?_)
  intro w1 hown hgrow
  have hbel : Below w.heap.size w w1 := (Below.refl _ _).grown hgrow (Nat.le_refl _) (fun k hk => by cases hk)
  obtain ⟨cur, hg, hcs⟩ := blk_of_owns hown
  clear hgrow hnil hz0 hz1 hz2 hown
  have hl : ((List.range n).map V).length = n := by simp
  have hsrc : ∀ j v, ((List.range n).map V)[j]? = some v → w1.cell? ((⟨b, off, none⟩ : Addr).add j) = some v := by
    intro j v hj
    obtain ⟨hjn, hv⟩ := range_map_some hj
    obtain ⟨b', off', he, hcell⟩ := hc j hjn
    simp only [Option.some.injEq, Addr.mk.injEq, and_true] at he
    obtain ⟨rfl, rfl⟩ := he
    rw [Addr.add_lit, hbel.cell (p := ⟨b, off + j, none⟩) (World.block_lt_of_cell? w _ hcell), hcell, hv]
  have h1 : ∀ v ∈ (List.range n).map V, v.oneCell' = true := by
    intro v hv
    obtain ⟨j, _, rfl⟩ := List.mem_map.1 hv
    exact hV j
  have hsz : (Try.prog.info? 3).map (·.size) = some 1 := by kernel_rfl
  have hrun := run_copy_row (P := Try.prog) w1 22 22 3 3 w.heap.size 0 n n ⟨b, off, none⟩ n cap cur 3 ((List.range n).map V) Try.underlying22 hsz hg (by rw [hl]; exact (Nat.min_self n).symm) hsrc (by rw [hl]; omega) h1
  clear hsrc h1 hl
  go_wp2
  go_ret
  refine ⟨rfl, ⟨_, setRow_heap w1 w.heap.size _ _ 3 _ hg, ?_, ?_⟩, below_setRow hbel (Nat.le_refl _) _⟩
  · simp [hcs]
  · intro j hj
    simp [hj, hcs]

theorem clone8_zero (ao : Option Addr) (cap : Nat) (w : World) :
    Calls Try.prog 8 #[.slice ao 0 cap] w fun e w' => (∃ ao' cap', e = .returned (.slice ao' 0 cap')) ∧ Below w.heap.size w w' := by
  have hnil := fun w => Lib.run_eql_slice_nil (P := Try.prog) w 22 3 ao 0 cap 0 0 Try.underlying22
  have hmk : ∀ w, (Instr.makeSlice 22 (.int .i64 0) (.int .i64 0)).run Try.prog w = .ok (.slice (some ⟨w.heap.size, 0, none⟩) 0 0) (w.alloc (.cells #[] 3)) := fun _ => by kernel_rfl
  have hsz : (Try.prog.info? 3).map (·.size) = some 1 := by kernel_rfl
  have hrun := run_copy_none (P := Try.prog) (w.alloc (.cells #[] 3)) 22 22 3 3 (some ⟨w.heap.size, 0, none⟩) ao 0 0 0 cap Try.underlying22 hsz rfl
  cases ao with
  | none =>
    go_enter Try.func8, Try.ntmps8
    go_wp2
    go_ret
    exact ⟨⟨_, _, rfl⟩, Below.refl _ _⟩
  | some a =>
    go_enter Try.func8, Try.ntmps8
    go_wp2
    go_ret
    exact ⟨⟨_, _, rfl⟩, (Below.refl _ _).alloc (Nat.le_refl _) _⟩

set_option maxHeartbeats 400000 in
theorem clone9 (b off n cap : Nat) (V : Nat → Value) (w : World) (hn0 : 0 < n) (hn : n ≤ 1048576) (hV : ∀ j, (V j).oneCell' = true) (hc : Cells w (some ⟨b, off, none⟩) n V) :
    Calls Try.prog 9 #[.slice (some ⟨b, off, none⟩) n cap] w fun e w' => e = .returned (.slice (some ⟨w.heap.size, 0, none⟩) n n) ∧
      (∃ cur : Array Value, Blk w' w.heap.size cur 4 ∧ cur.size = n ∧ ∀ j, j < n → cur[j]? = some (V j)) ∧ Below w.heap.size w w' := by
  have hnil := fun w => Lib.run_eql_slice_nil (P := Try.prog) w 23 4 (some ⟨b, off, none⟩) n cap 0 0 Try.underlying23
  obtain ⟨i0, hi, hz0, hz1, hz2⟩ := info_parts Try.info4
  go_enter Try.func9, Try.ntmps9
  go_wp2_with (at_make; refine wpList_make_full _ rfl _ _ 23 rfl w.heap.size 4 i0 (.bool false) 1 Try.underlying23 hi hz0 hz1 _ _ _ _ n rfl rfl rfl rfl (by rw [hz2]; omega) (by unfold maxLen; omega) (Nat.le_refl _) ?_)
  intro w1 hown hgrow
  have hbel : Below w.heap.size w w1 := (Below.refl _ _).grown hgrow (Nat.le_refl _) (fun k hk => by cases hk)
  obtain ⟨cur, hg, hcs⟩ := blk_of_owns hown
  clear hgrow hnil hz0 hz1 hz2 hown
  have hl : ((List.range n).map V).length = n := by simp
  have hsrc : ∀ j v, ((List.range n).map V)[j]? = some v → w1.cell? ((⟨b, off, none⟩ : Addr).add j) = some v := by
    intro j v hj
    obtain ⟨hjn, hv⟩ := range_map_some hj
    obtain ⟨b', off', he, hcell⟩ := hc j hjn
    simp only [Option.some.injEq, Addr.mk.injEq, and_true] at he
    obtain ⟨rfl, rfl⟩ := he
    rw [Addr.add_lit, hbel.cell (p := ⟨b, off + j, none⟩) (World.block_lt_of_cell? w _ hcell), hcell, hv]
  have h1 : ∀ v ∈ (List.range n).map V, v.oneCell' = true := by
    intro v hv
    obtain ⟨j, _, rfl⟩ := List.mem_map.1 hv
    exact hV j
  have hsz : (Try.prog.info? 4).map (·.size) = some 1 := by kernel_rfl
  have hrun := run_copy_row (P := Try.prog) w1 23 23 3 4 w.heap.size 0 n n ⟨b, off, none⟩ n cap cur 4 ((List.range n).map V) Try.underlying23 hsz hg (by rw [hl]; exact (Nat.min_self n).symm) hsrc (by rw [hl]; omega) h1
  clear hsrc h1 hl
  go_wp2
  go_ret
  refine ⟨rfl, ⟨_, setRow_heap w1 w.heap.size _ _ 4 _ hg, ?_, ?_⟩, below_setRow hbel (Nat.le_refl _) _⟩
  · simp [hcs]
  · intro j hj
    simp [hj, hcs]

theorem clone9_zero (ao : Option Addr) (cap : Nat) (w : World) :
    Calls Try.prog 9 #[.slice ao 0 cap] w fun e w' => (∃ ao' cap', e = .returned (.slice ao' 0 cap')) ∧ Below w.heap.size w w' := by
  have hnil := fun w => Lib.run_eql_slice_nil (P := Try.prog) w 23 4 ao 0 cap 0 0 Try.underlying23
  have hmk : ∀ w, (Instr.makeSlice 23 (.int .i64 0) (.int .i64 0)).run Try.prog w = .ok (.slice (some ⟨w.heap.size, 0, none⟩) 0 0) (w.alloc (.cells #[] 4)) := fun _ => by kernel_rfl
  have hsz : (Try.prog.info? 4).map (·.size) = some 1 := by kernel_rfl
  have hrun := run_copy_none (P := Try.prog) (w.alloc (.cells #[] 4)) 23 23 3 4 (some ⟨w.heap.size, 0, none⟩) ao 0 0 0 cap Try.underlying23 hsz rfl
  cases ao with
  | none =>
    go_enter Try.func9, Try.ntmps9
    go_wp2
    go_ret
    exact ⟨⟨_, _, rfl⟩, Below.refl _ _⟩
  | some a =>
    go_enter Try.func9, Try.ntmps9
    go_wp2
    go_ret
    exact ⟨⟨_, _, rfl⟩, (Below.refl _ _).alloc (Nat.le_refl _) _⟩

set_option maxHeartbeats 400000 in
theorem clone10 (b off n cap : Nat) (V : Nat → Value) (w : World) (hn0 : 0 < n) (hn : n ≤ 1048576) (hV : ∀ j, (V j).oneCell' = true) (hc : Cells w (some ⟨b, off, none⟩) n V) :
    Calls Try.prog 10 #[.slice (some ⟨b, off, none⟩) n cap] w fun e w' => e = .returned (.slice (some ⟨w.heap.size, 0, none⟩) n n) ∧
      (∃ cur : Array Value, Blk w' w.heap.size cur 21 ∧ cur.size = n ∧ ∀ j, j < n → cur[j]? = some (V j)) ∧ Below w.heap.size w w' := by
  have hnil := fun w => Lib.run_eql_slice_nil (P := Try.prog) w 24 21 (some ⟨b, off, none⟩) n cap 0 0 Try.underlying24
  obtain ⟨i0, hi, hz0, hz1, hz2⟩ := info_parts Try.info21
  go_enter Try.func10, Try.ntmps10
  go_wp2_with (at_make; refine wpList_make_full _ rfl _ _ 24 rfl w.heap.size 21 i0 (.int .i32 0) 1 Try.underlying24 hi hz0 hz1 _ _ _ _ n rfl rfl rfl rfl (by rw [hz2]; omega) (by unfold maxLen; omega) (Nat.le_refl _) ?_)
  intro w1 hown hgrow
  have hbel : Below w.heap.size w w1 := (Below.refl _ _).grown hgrow (Nat.le_refl _) (fun k hk => by cases hk)
  obtain ⟨cur, hg, hcs⟩ := blk_of_owns hown
  clear hgrow hnil hz0 hz1 hz2 hown
  have hl : ((List.range n).map V).length = n := by simp
  have hsrc : ∀ j v, ((List.range n).map V)[j]? = some v → w1.cell? ((⟨b, off, none⟩ : Addr).add j) = some v := by
    intro j v hj
    obtain ⟨hjn, hv⟩ := range_map_some hj
    obtain ⟨b', off', he, hcell⟩ := hc j hjn
    simp only [Option.some.injEq, Addr.mk.injEq, and_true] at he
    obtain ⟨rfl, rfl⟩ := he
    rw [Addr.add_lit, hbel.cell (p := ⟨b, off + j, none⟩) (World.block_lt_of_cell? w _ hcell), hcell, hv]
  have h1 : ∀ v ∈ (List.range n).map V, v.oneCell' = true := by
    intro v hv
    obtain ⟨j, _, rfl⟩ := List.mem_map.1 hv
    exact hV j
  have hsz : (Try.prog.info? 21).map (·.size) = some 1 := by kernel_rfl
  have hrun := run_copy_row (P := Try.prog) w1 24 24 3 21 w.heap.size 0 n n ⟨b, off, none⟩ n cap cur 21 ((List.range n).map V) Try.underlying24 hsz hg (by rw [hl]; exact (Nat.min_self n).symm) hsrc (by rw [hl]; omega) h1
  clear hsrc h1 hl
  go_wp2
  go_ret
  refine ⟨rfl, ⟨_, setRow_heap w1 w.heap.size _ _ 21 _ hg, ?_, ?_⟩, below_setRow hbel (Nat.le_refl _) _⟩
  · simp [hcs]
  · intro j hj
    simp [hj, hcs]

theorem clone10_zero (ao : Option Addr) (cap : Nat) (w : World) :
    Calls Try.prog 10 #[.slice ao 0 cap] w fun e w' => (∃ ao' cap', e = .returned (.slice ao' 0 cap')) ∧ Below w.heap.size w w' := by
  have hnil := fun w => Lib.run_eql_slice_nil (P := Try.prog) w 24 21 ao 0 cap 0 0 Try.underlying24
  have hmk : ∀ w, (Instr.makeSlice 24 (.int .i64 0) (.int .i64 0)).run Try.prog w = .ok (.slice (some ⟨w.heap.size, 0, none⟩) 0 0) (w.alloc (.cells #[] 21)) := fun _ => by kernel_rfl
  have hsz : (Try.prog.info? 21).map (·.size) = some 1 := by kernel_rfl
  have hrun := run_copy_none (P := Try.prog) (w.alloc (.cells #[] 21)) 24 24 3 21 (some ⟨w.heap.size, 0, none⟩) ao 0 0 0 cap Try.underlying24 hsz rfl
  cases ao with
  | none =>
    go_enter Try.func10, Try.ntmps10
    go_wp2
    go_ret
    exact ⟨⟨_, _, rfl⟩, Below.refl _ _⟩
  | some a =>
    go_enter Try.func10, Try.ntmps10
    go_wp2
    go_ret
    exact ⟨⟨_, _, rfl⟩, (Below.refl _ _).alloc (Nat.le_refl _) _⟩

end Go.Proofs.Qxb6003776a
