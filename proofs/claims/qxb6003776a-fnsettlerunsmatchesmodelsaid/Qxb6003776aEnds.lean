/-
  'FnSettleRunsMatchesModel': the ways on which it answers at once, and the empty input.
-/
import Derived.Test.Qxb6003776aRow
namespace Go.Proofs.Qxb6003776a
open Go.RowKit

theorem zz7_yes (a0 a1 a2 a3 : Option Addr) (n0 n1 n2 n3 c0 c1 c2 c3 : Nat) (w : World) (hn : n0 + n1 + n2 + n3 ≤ 1048576) :
    Calls Try.prog 7 #[.slice a0 n0 c0, .slice a1 n1 c1, .slice a2 n2 c2, .slice a3 n3 c3] w fun e w' => e = .returned (.bool true) ∧ w' = w := by
  go_enter Try.func7, Try.ntmps7
  go_wp2
  go_ret
  exact ⟨rfl, rfl⟩

theorem zz7_not (a0 a1 a2 a3 : Option Addr) (n0 n1 n2 n3 c0 c1 c2 c3 : Nat) (w : World) (m0 : n0 ≤ maxLen) (m1 : n1 ≤ maxLen) (m2 : n2 ≤ maxLen) (m3 : n3 ≤ maxLen) (hn : 1048576 < n0 + n1 + n2 + n3) :
    Calls Try.prog 7 #[.slice a0 n0 c0, .slice a1 n1 c1, .slice a2 n2 c2, .slice a3 n3 c3] w fun e w' => e = .returned (.bool false) ∧ w' = w := by
  unfold maxLen at m0 m1 m2 m3
  rcases (show 1048576 < n0 ∨ (n0 ≤ 1048576 ∧ 1048576 < n1) ∨ (n0 ≤ 1048576 ∧ n1 ≤ 1048576 ∧ 1048576 < n0 + n1) ∨ (n0 + n1 ≤ 1048576 ∧ 1048576 < n2) ∨ (n0 + n1 ≤ 1048576 ∧ n2 ≤ 1048576 ∧ 1048576 < n0 + n1 + n2) ∨ (n0 + n1 + n2 ≤ 1048576 ∧ 1048576 < n3) ∨ (n0 + n1 + n2 ≤ 1048576 ∧ n3 ≤ 1048576) by omega) with h | ⟨h, h'⟩ | ⟨h, h', h''⟩ | ⟨h, h'⟩ | ⟨h, h', h''⟩ | ⟨h, h'⟩ | ⟨h, h'⟩
  all_goals
    go_enter Try.func7, Try.ntmps7
    go_wp2
    go_ret
    exact ⟨rfl, rfl⟩

set_option maxRecDepth 10000 in
theorem huge_any (a0 a1 a2 a3 : Option Addr) (n0 n1 n2 n3 c0 c1 c2 c3 : Nat) (w : World) (m0 : n0 ≤ maxLen) (m1 : n1 ≤ maxLen) (m2 : n2 ≤ maxLen) (m3 : n3 ≤ maxLen) (hn : 1048576 < n0 + n1 + n2 + n3) :
    Calls Try.prog 3 #[.slice a0 n0 c0, .slice a1 n1 c1, .slice a2 n2 c2, .slice a3 n3 c3] w fun e w' => e = .returned (.bool true) ∧ Below w.heap.size w w' := by
  go_enter Try.func3, Try.ntmps3
  go_wp2_with (go_at_call 7; refine (zz7_not a0 a1 a2 a3 n0 n1 n2 n3 c0 c1 c2 c3 w m0 m1 m2 m3 hn).mono ?_; rintro e w' ⟨rfl, rfl⟩)
  go_ret
  exact ⟨rfl, Below.refl _ _⟩

set_option maxRecDepth 10000 in
set_option maxHeartbeats 1000000 in
theorem odd_any (a0 a1 a2 a3 : Option Addr) (n0 n1 n2 n3 c0 c1 c2 c3 : Nat) (w : World) (hn : n0 + n1 + n2 + n3 ≤ 1048576)
    (h : 1048576 < 8 * n0 + 8 * n1 + n2 + 4 * n3 ∨ n1 ≠ n0 ∨ n2 ≠ n0 ∨ n3 ≠ n0) :
    Calls Try.prog 3 #[.slice a0 n0 c0, .slice a1 n1 c1, .slice a2 n2 c2, .slice a3 n3 c3] w fun e w' => e = .returned (.bool true) ∧ Below w.heap.size w w' := by
  by_cases h8 : 1048576 < 8 * n0 + 8 * n1 + n2 + 4 * n3
  · clear h
    go_enter Try.func3, Try.ntmps3
    go_wp2_with (go_at_call 7; refine (zz7_yes a0 a1 a2 a3 n0 n1 n2 n3 c0 c1 c2 c3 w hn).mono ?_; rintro e w' ⟨rfl, rfl⟩)
    go_ret
    exact ⟨rfl, Below.refl _ _⟩
  · by_cases e1 : n1 = n0
    · subst e1
      by_cases e2 : n2 = n1
      · subst e2
        have g3 : ((n3 : Int) != (n2 : Int)) = true := by simp; omega
        clear h
        go_enter Try.func3, Try.ntmps3
        go_wp2_with (go_at_call 7; refine (zz7_yes a0 a1 a2 a3 n2 n2 n2 n3 c0 c1 c2 c3 w hn).mono ?_; rintro e w' ⟨rfl, rfl⟩)
        go_ret
        exact ⟨rfl, Below.refl _ _⟩
      · have g2 : ((n2 : Int) != (n1 : Int)) = true := by simp; omega
        clear h e2
        go_enter Try.func3, Try.ntmps3
        go_wp2_with (go_at_call 7; refine (zz7_yes a0 a1 a2 a3 n1 n1 n2 n3 c0 c1 c2 c3 w hn).mono ?_; rintro e w' ⟨rfl, rfl⟩)
        go_ret
        exact ⟨rfl, Below.refl _ _⟩
    · have g1 : ((n1 : Int) != (n0 : Int)) = true := by simp; omega
      clear h e1
      go_enter Try.func3, Try.ntmps3
      go_wp2_with (go_at_call 7; refine (zz7_yes a0 a1 a2 a3 n0 n1 n2 n3 c0 c1 c2 c3 w hn).mono ?_; rintro e w' ⟨rfl, rfl⟩)
      go_ret
      exact ⟨rfl, Below.refl _ _⟩

theorem settle_zero (gP : Nat) (ao : Option Addr) (cap : Nat) (w : World) (hP : w.cell? ⟨gP, 4, none⟩ = some (.slice ao 0 cap)) :
    Calls Try.prog 13 #[.pointer (some ⟨gP, 0, none⟩)] w fun e w' => e = .returned (.tuple #[]) ∧ w' = w := by
  go_enter Try.func13, Try.ntmps13
  go_wp2
  refine wp_loop_rounds 1 ?_
  rw [rounds_succ]
  go_wp2
  go_end0
  go_wp2
  go_end0
  exact ⟨rfl, rfl⟩

theorem part_cell (w : World) (c : Array Value) (v : Value) (hc : c[4]? = some v) : (w.alloc (.cells c 39)).cell? ⟨w.heap.size, 4, none⟩ = some v := by
  rw [cell_of_row _ w.heap.size 4 c 39 (0, 0) (heap_alloc_new w _)]
  exact hc

set_option maxRecDepth 10000 in
set_option maxHeartbeats 1000000 in
theorem main_zero (a0 a1 a2 a3 : Option Addr) (c0 c1 c2 c3 : Nat) (w : World) :
    Calls Try.prog 3 #[.slice a0 0 c0, .slice a1 0 c1, .slice a2 0 c2, .slice a3 0 c3] w fun e w' => e = .returned (.bool true) ∧ Below w.heap.size w w' := by
  have mk29 : ∀ w, (Instr.makeSlice 29 (.int .i64 0) (.int .i64 0)).run Try.prog w = .ok (.slice (some ⟨w.heap.size, 0, none⟩) 0 0) (w.alloc (.cells #[] 34)) := fun _ => by kernel_rfl
  have mk23 : ∀ w, (Instr.makeSlice 23 (.int .i64 0) (.int .i64 0)).run Try.prog w = .ok (.slice (some ⟨w.heap.size, 0, none⟩) 0 0) (w.alloc (.cells #[] 4)) := fun _ => by kernel_rfl
  have mk22 : ∀ w, (Instr.makeSlice 22 (.int .i64 0) (.int .i64 0)).run Try.prog w = .ok (.slice (some ⟨w.heap.size, 0, none⟩) 0 0) (w.alloc (.cells #[] 3)) := fun _ => by kernel_rfl
  go_enter Try.func3, Try.ntmps3
  go_wp2_with fail
  refine (zz7_yes a0 a1 a2 a3 0 0 0 0 c0 c1 c2 c3 w (by omega)).mono ?_
  rintro e w0 ⟨rfl, rfl⟩
  go_wp2_with fail
  refine (clone8_zero a0 c0 _).mono ?_
  rintro e w1 ⟨⟨x0, d0, rfl⟩, B1⟩
  go_wp2_with fail
  refine (clone8_zero a1 c1 _).mono ?_
  rintro e w2 ⟨⟨x1, d1, rfl⟩, N2⟩
  go_wp2_with fail
  refine (clone9_zero a2 c2 _).mono ?_
  rintro e w3 ⟨⟨x2, d2, rfl⟩, N3⟩
  go_wp2_with fail
  refine (clone10_zero a3 c3 _).mono ?_
  rintro e w4 ⟨⟨x3, d3, rfl⟩, N4⟩
  have s1 := B1.size
  have s2 := N2.size
  have s3 := N3.size
  have s4 := N4.size
  have B4 : Below w0.heap.size w0 w4 := ((B1.trans (N2.mono s1)).trans (N3.mono (by omega))).trans (N4.mono (by omega))
  clear B1 N2 N3 N4 s1 s2 s3 s4
  go_wp2_with fail
  refine wp_loop_rounds 1 ?_
  rw [rounds_succ]
  go_wp2_with fail
  have hP : ((w4.alloc (.cells #[] 34)).alloc (.cells #[.string ⟨#[]⟩, .int .i64 0, .slice none 0 0, .bool false, .slice (some ⟨w4.heap.size, 0, none⟩) 0 0] 39)).cell? ⟨w4.heap.size + 1, 4, none⟩ = some (.slice (some ⟨w4.heap.size, 0, none⟩) 0 0) := by
    have h := part_cell (w4.alloc (.cells #[] 34)) #[.string ⟨#[]⟩, .int .i64 0, .slice none 0 0, .bool false, .slice (some ⟨w4.heap.size, 0, none⟩) 0 0] _ rfl
    rw [World.size_alloc] at h
    exact h
  refine (settle_zero (w4.heap.size + 1) _ 0 _ hP).mono ?_
  rintro e w5 ⟨rfl, hw5⟩
  have B5 : Below w0.heap.size w0 w5 := by
    rw [hw5]
    exact (B4.alloc B4.size _).alloc (by have := B4.size; simp; omega) _
  clear hP hw5 B4
  go_wp2_with fail
  refine wp_loop_rounds 1 ?_
  rw [rounds_succ]
  go_wp2_with fail
  refine wp_loop_rounds 1 ?_
  rw [rounds_succ]
  go_wp2_with fail
  refine wp_loop_rounds 1 ?_
  rw [rounds_succ]
  go_wp2_with fail
  go_ret
  have hs := B5.size
  exact ⟨rfl, ((B5.alloc hs _).alloc (by simp; omega) _).alloc (by simp; omega) _⟩

end Go.Proofs.Qxb6003776a
