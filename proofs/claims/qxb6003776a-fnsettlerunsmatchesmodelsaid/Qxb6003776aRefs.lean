/-
  The row of references in memory, and the chunks.
-/
import Derived.Test.Qxb6003776aSmall
import Derived.Test.Qxb6003776aPlain
namespace Go.Proofs.Qxb6003776a
open Go.RowKit

def upd (f : Nat → Int) (i : Nat) (v : Int) (j : Nat) : Int := if j = i then v else f j
theorem upd_same (f : Nat → Int) (i : Nat) (v : Int) : upd f i v i = v := by simp [upd]
theorem upd_other (f : Nat → Int) (i : Nat) (v : Int) (j : Nat) (h : j ≠ i) : upd f i v j = f j := by simp [upd, h]

/-- Block g is a row of n references. -/
def Refs (w : World) (g n : Nat) (st en : Nat → Int) (ch : Nat → Nat) (re rm : Nat → Int) : Prop :=
  ∃ cur : Array Value, Blk w g cur 34 ∧ cur.size = n * 5 ∧ ∀ j, j < n → cur[j * 5]? = some (.int .i64 (st j)) ∧ cur[j * 5 + 1]? = some (.int .i64 (en j)) ∧
    cur[j * 5 + 2]? = some (.pointer (some ⟨ch j, 0, none⟩)) ∧ cur[j * 5 + 3]? = some (.int .i32 (re j)) ∧ cur[j * 5 + 4]? = some (.int .i32 (rm j))

section
variable {w w' : World} {g n : Nat} {st en : Nat → Int} {ch : Nat → Nat} {re rm : Nat → Int}

theorem Refs.lt (h : Refs w g n st en ch re rm) : g < w.heap.size := by
  obtain ⟨cur, h0, _⟩ := h
  exact (Array.getElem?_eq_some_iff.1 h0).1

theorem Refs.cells (h : Refs w g n st en ch re rm) (j : Nat) (hj : j < n) : w.cell? ⟨g, j * 5, none⟩ = some (.int .i64 (st j)) ∧ w.cell? ⟨g, j * 5 + 1, none⟩ = some (.int .i64 (en j)) ∧
    w.cell? ⟨g, j * 5 + 2, none⟩ = some (.pointer (some ⟨ch j, 0, none⟩)) ∧ w.cell? ⟨g, j * 5 + 3, none⟩ = some (.int .i32 (re j)) ∧ w.cell? ⟨g, j * 5 + 4, none⟩ = some (.int .i32 (rm j)) := by
  obtain ⟨cur, h0, _, hall⟩ := h
  obtain ⟨a, b, c, d, e⟩ := hall j hj
  exact ⟨(cell_of_row w g _ _ _ _ h0).trans a, (cell_of_row w g _ _ _ _ h0).trans b, (cell_of_row w g _ _ _ _ h0).trans c, (cell_of_row w g _ _ _ _ h0).trans d, (cell_of_row w g _ _ _ _ h0).trans e⟩

theorem Refs.free (h : Refs w g n st en ch re rm) (j : Nat) : w.frozen? ⟨g, j, none⟩ = false := by
  obtain ⟨cur, h0, _⟩ := h
  exact frozen_of_row w g j _ _ h0

theorem Refs.kept (h : Refs w g n st en ch re rm) (he : w'.heap[g]? = w.heap[g]?) : Refs w' g n st en ch re rm := by
  obtain ⟨cur, h0, hr⟩ := h
  exact ⟨cur, he.trans h0, hr⟩

theorem Refs.setEnd (h : Refs w g n st en ch re rm) (i : Nat) (v : Int) : Refs (w.setCell ⟨g, i * 5 + 3, none⟩ (.int .i32 v)) g n st en ch (upd re i v) rm := by
  obtain ⟨cur, h0, hs, hall⟩ := h
  refine ⟨_, heap_setCell_same w g (i * 5 + 3) cur 34 _ h0, by simpa using hs, fun j hj => ?_⟩
  obtain ⟨a, b, c, d, e⟩ := hall j hj
  simp only [Array.getElem?_setIfInBounds]
  refine ⟨by rw [if_neg (by omega)]; exact a, by rw [if_neg (by omega)]; exact b, by rw [if_neg (by omega)]; exact c, ?_, by rw [if_neg (by omega)]; exact e⟩
  by_cases hji : j = i
  · subst hji; rw [if_pos rfl, if_pos (by omega), upd_same]
  · rw [if_neg (by omega), upd_other _ _ _ _ hji]; exact d

theorem Refs.setMark (h : Refs w g n st en ch re rm) (i : Nat) (v : Int) : Refs (w.setCell ⟨g, i * 5 + 4, none⟩ (.int .i32 v)) g n st en ch re (upd rm i v) := by
  obtain ⟨cur, h0, hs, hall⟩ := h
  refine ⟨_, heap_setCell_same w g (i * 5 + 4) cur 34 _ h0, by simpa using hs, fun j hj => ?_⟩
  obtain ⟨a, b, c, d, e⟩ := hall j hj
  simp only [Array.getElem?_setIfInBounds]
  refine ⟨by rw [if_neg (by omega)]; exact a, by rw [if_neg (by omega)]; exact b, by rw [if_neg (by omega)]; exact c, by rw [if_neg (by omega)]; exact d, ?_⟩
  by_cases hji : j = i
  · subst hji; rw [if_pos rfl, if_pos (by omega), upd_same]
  · rw [if_neg (by omega), upd_other _ _ _ _ hji]; exact e

theorem Refs.congr {re' rm' : Nat → Int} (h : Refs w g n st en ch re rm) (h1 : ∀ j, j < n → re j = re' j) (h2 : ∀ j, j < n → rm j = rm' j) : Refs w g n st en ch re' rm' := by
  obtain ⟨cur, h0, hs, hall⟩ := h
  refine ⟨cur, h0, hs, fun j hj => ?_⟩
  rw [← h1 j hj, ← h2 j hj]
  exact hall j hj
end

theorem Refs.alloc {w : World} {g n : Nat} {st en : Nat → Int} {ch : Nat → Nat} {re rm : Nat → Int} (h : Refs w g n st en ch re rm) (o : Obj) : Refs (w.alloc o) g n st en ch re rm := h.kept (Below.heap_alloc w o g h.lt)
theorem Refs.drew {w : World} {g n : Nat} {st en : Nat → Int} {ch : Nat → Nat} {re rm : Nat → Int} (h : Refs w g n st en ch re rm) : Refs w.drew g n st en ch re rm := h
theorem Refs.drewN {w : World} {g n : Nat} {st en : Nat → Int} {ch : Nat → Nat} {re rm : Nat → Int} (h : Refs w g n st en ch re rm) (q : Nat) : Refs (w.drewN q) g n st en ch re rm := h

/-- Each reference's chunk, apart from the row of references. -/
def Chunks (w : World) (g n : Nat) (ch : Nat → Nat) (sl : Nat → Bool) (dp : Nat → Int) : Prop := ∀ j, j < n → ch j ≠ g ∧ IsChunk w (ch j) (sl j) (dp j)

theorem blk_lt {w : World} {g : Nat} {cur : Array Value} {e : TypeId} (h : Blk w g cur e) : g < w.heap.size := (Array.getElem?_eq_some_iff.1 h).1

theorem Chunks.kept {w w' : World} {g n : Nat} {ch : Nat → Nat} {sl : Nat → Bool} {dp : Nat → Int} (h : Chunks w g n ch sl dp) (hg : w.grownBy w' (some g)) : Chunks w' g n ch sl dp := by
  intro j hj
  obtain ⟨h1, h2⟩ := h j hj
  refine ⟨h1, ?_⟩
  show w'.heap[ch j]? = _
  rw [hg.block (ch j) (blk_lt h2) (by simpa using h1)]
  exact h2

theorem grown_weaken {w w' : World} {row : Option Nat} (h : w.grownBy w' none) : w.grownBy w' row := ⟨h.os, h.tape, h.output, h.size, fun k hk _ => h.block k hk (by simp)⟩

theorem grown_drew (w : World) (row : Option Nat) : w.grownBy w.drew row := ⟨rfl, rfl, rfl, Nat.le_refl _, fun _ _ _ => rfl⟩
theorem grown_drewN (w : World) (q : Nat) (row : Option Nat) : w.grownBy (w.drewN q) row := ⟨rfl, rfl, rfl, Nat.le_refl _, fun _ _ _ => rfl⟩

end Go.Proofs.Qxb6003776a
