/-
  The small callees: 'ZZChunk', 'ZZRef', 'deepestLine', 'meet', 'ZZRun'.
-/
import Derived.Test.Qxb6003776aClone
import Derived.RegionTactic
import Derived.Deep.QuietTactic
import Derived.BigQuiet
namespace Go.Proofs.Qxb6003776a
open Go.RowKit

/-- The cells of a chunk that ZZChunk makes. -/
def chunkCells (s : Bool) (d : Int) : Array Value :=
  #[.string ⟨#[]⟩, .pointer none, .slice none 0 0, .pointer none, .int .i64 0, .int .i64 0, .int .i64 0, .int .i64 0, .int .i64 0, .int .i64 0, .bool false, .bool false, .pointer none, .int .i32 d, .bool s, .bool false, .bool false]

theorem chunk_any (s : Bool) (d : Int) (w : World) :
    Calls Try.prog 12 #[.bool s, .int .i32 d] w fun e w' => e = .returned (.pointer (some ⟨w.heap.size, 0, none⟩)) ∧ w' = w.alloc (.cells (chunkCells s d) 62) := by
  go_enter Try.func12, Try.ntmps12
  go_wp2
  go_ret
  exact ⟨rfl, rfl⟩

theorem ref_any (s e : Int) (c : Value) (hc : ∃ a, c = .pointer a) (w : World) :
    Calls Try.prog 11 #[.int .i64 s, .int .i64 e, c] w fun e' w' => e' = .returned (.agg #[.int .i64 s, .int .i64 e, c, .int .i32 0, .int .i32 0]) ∧ w' = w.alloc (.cells #[.int .i64 s, .int .i64 e, c, .int .i32 0, .int .i32 0] 34) := by
  obtain ⟨a, rfl⟩ := hc
  go_enter Try.func11, Try.ntmps11
  go_wp2
  exact bodyPost_ret (v := .agg #[.int .i64 s, .int .i64 e, .pointer a, .int .i32 0, .int .i32 0]) (by simp [results, Try.results11, go_sem]) rfl ⟨rfl, rfl⟩

/-- Block c is a chunk of these two marks. -/
def IsChunk (w : World) (c : Nat) (s : Bool) (d : Int) : Prop := Blk w c (chunkCells s d) 62

theorem IsChunk.cells {w : World} {c : Nat} {s : Bool} {d : Int} (h : IsChunk w c s d) :
    w.cell? ⟨c, 12, none⟩ = some (.pointer none) ∧ w.cell? ⟨c, 13, none⟩ = some (.int .i32 d) ∧ w.cell? ⟨c, 14, none⟩ = some (.bool s) := by
  have h0 : w.heap[c]? = some (.cells (chunkCells s d) 62 (0, 0)) := h
  refine ⟨?_, ?_, ?_⟩
  · rw [cell_of_row w c 12 _ _ _ h0]; rfl
  · rw [cell_of_row w c 13 _ _ _ h0]; rfl
  · rw [cell_of_row w c 14 _ _ _ h0]; rfl

/-- The cells of an origin that 'deepestLine' gives. -/
def originCells (d : Int) : Array Value := #[.pointer none, .int .i64 0, .int .i64 d]

theorem deep_any (c : Nat) (s : Bool) (d : Int) (w : World) (h : IsChunk w c s d) (hd : -2147483648 ≤ d ∧ d ≤ 2147483647) :
    Calls Try.prog 30 #[.pointer (some ⟨c, 0, none⟩)] w fun e w' => e = .returned (.agg #[.pointer none, .int .i64 0, .int .i64 d]) ∧ w' = (w.alloc (.cells (originCells d) 68)).drew := by
  obtain ⟨h1, h2, h3⟩ := h.cells
  have hlt := World.block_lt_of_cell? w _ h1
  simp only at hlt
  have hne : ¬ w.heap.size = c := by omega
  clear h
  go_enter Try.func30, Try.ntmps30
  go_wp2
  go_region
  go_wp2
  exact bodyPost_ret (v := .agg #[.pointer none, .int .i64 0, .int .i64 d]) (by simp [results, Try.results30, go_sem]) rfl ⟨rfl, rfl⟩

theorem grownBy_drew_alloc (w : World) (o : Obj) (row : Option Nat) : w.grownBy (w.alloc o).drew row :=
  have h := World.grownBy_alloc w o row
  ⟨h.os, h.tape, h.output, h.size, h.block⟩

theorem grownBy_set (w : World) (m j : Nat) (v : Value) : w.grownBy (w.setCell ⟨m, j, none⟩ v) (some m) :=
  ⟨rfl, rfl, rfl, by simp, fun k _ hk => heap_setCell_other w ⟨m, j, none⟩ k v (fun e => hk (by simp [e]))⟩

theorem grownBy_trans {a b c : World} {row : Option Nat} (h : a.grownBy b row) (g : b.grownBy c row) : a.grownBy c row :=
  ⟨g.os.trans h.os, g.tape.trans h.tape, g.output.trans h.output, Nat.le_trans h.size g.size, fun k hk hne => (g.block k (Nat.lt_of_lt_of_le hk h.size) hne).trans (h.block k hk hne)⟩

/-- 'meet': it answers whether it goes deeper; only the block of the one that meets is turned. -/
theorem meet_any (m : Nat) (d1 d2 : Int) (w : World) (v0 v1 : Value) (h : Blk w m #[v0, v1, .int .i64 d1] 68) :
    Calls Try.prog 31 #[.pointer (some ⟨m, 0, none⟩), .agg #[.pointer none, .int .i64 0, .int .i64 d2]] w fun e w' => e = .returned (.bool (decide (d1 < d2))) ∧ w.grownBy w' (some m) := by
  have h0 : w.heap[m]? = some (.cells #[v0, v1, .int .i64 d1] 68 (0, 0)) := h
  have c0 : w.cell? ⟨m, 0, none⟩ = some v0 := by rw [cell_of_row w m 0 _ _ _ h0]; rfl
  have c1 : w.cell? ⟨m, 1, none⟩ = some v1 := by rw [cell_of_row w m 1 _ _ _ h0]; rfl
  have c2 : w.cell? ⟨m, 2, none⟩ = some (.int .i64 d1) := by rw [cell_of_row w m 2 _ _ _ h0]; rfl
  have f0 : w.frozen? ⟨m, 0, none⟩ = false := frozen_of_row w m 0 _ _ h0
  have f1 : w.frozen? ⟨m, 1, none⟩ = false := frozen_of_row w m 1 _ _ h0
  have f2 : w.frozen? ⟨m, 2, none⟩ = false := frozen_of_row w m 2 _ _ h0
  have hlt := World.block_lt_of_cell? w _ c0
  simp only at hlt
  have hne : ¬ w.heap.size = m := by omega
  clear h h0
  by_cases hd : d1 < d2
  · rw [decide_eq_true hd]
    go_enter Try.func31, Try.ntmps31
    go_wp2
    go_region
    go_wp2
    go_ret
    exact ⟨rfl, grownBy_trans (grownBy_trans (grownBy_trans (grownBy_set _ _ _ _) (grownBy_set _ _ _ _)) (grownBy_set _ _ _ _)) (grownBy_drew_alloc _ _ _)⟩
  · rw [decide_eq_false hd]
    have hd' : d2 ≤ d1 := by omega
    go_enter Try.func31, Try.ntmps31
    go_wp2
    go_region
    go_wp2
    go_ret
    exact ⟨rfl, grownBy_drew_alloc _ _ _⟩

theorem run_any (a b : Int) (c : Value) (re rm : Int) (hc : ∃ a, c = .pointer a) (w : World) :
    Calls Try.prog 14 #[.agg #[.int .i64 a, .int .i64 b, c, .int .i32 re, .int .i32 rm]] w fun e w' => e = .returned (.tuple #[.int .i32 re, .int .i32 rm]) ∧ w' = (w.alloc (.cells #[.int .i64 a, .int .i64 b, c, .int .i32 re, .int .i32 rm] 34)).drew := by
  obtain ⟨q, rfl⟩ := hc
  go_enter Try.func14, Try.ntmps14
  go_wp2
  go_region
  go_wp2
  go_ret2
  exact ⟨rfl, rfl⟩
end Go.Proofs.Qxb6003776a
