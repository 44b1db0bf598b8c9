/-
  Rows of one-cell elements in memory; the references as they are made; the segments of the model.
-/
import Derived.Test.Qxb6003776aSettle
namespace Go.Proofs.Qxb6003776a
open Go.RowKit

def updV (f : Nat → Value) (i : Nat) (v : Value) (j : Nat) : Value := if j = i then v else f j

/-- Block g is a row of n cells V 0, V 1, .. of type e. -/
def Row (w : World) (g n : Nat) (V : Nat → Value) (e : TypeId) : Prop := ∃ cur : Array Value, Blk w g cur e ∧ cur.size = n ∧ ∀ j, j < n → cur[j]? = some (V j)

section
variable {w w' : World} {g n : Nat} {V : Nat → Value} {e : TypeId}
theorem Row.cell (h : Row w g n V e) (j : Nat) (hj : j < n) : w.cell? ⟨g, j, none⟩ = some (V j) := by
  obtain ⟨cur, h0, _, h2⟩ := h
  exact (cell_of_row w g _ _ _ _ h0).trans (h2 j hj)
theorem Row.free (h : Row w g n V e) (j : Nat) : w.frozen? ⟨g, j, none⟩ = false := by
  obtain ⟨cur, h0, _⟩ := h
  exact frozen_of_row w g j _ _ h0
theorem Row.lt (h : Row w g n V e) : g < w.heap.size := by
  obtain ⟨cur, h0, _⟩ := h
  exact (Array.getElem?_eq_some_iff.1 h0).1
theorem Row.kept (h : Row w g n V e) (he : w'.heap[g]? = w.heap[g]?) : Row w' g n V e := by
  obtain ⟨cur, h0, hr⟩ := h
  exact ⟨cur, he.trans h0, hr⟩
theorem Row.below {B : Nat} (h : Row w g n V e) (hb : Below B w w') (hB : w.heap.size ≤ B) : Row w' g n V e := h.kept (hb.block g (Nat.lt_of_lt_of_le h.lt hB))
theorem Row.grown {row : Option Nat} (h : Row w g n V e) (hb : w.grownBy w' row) (hne : some g ≠ row) : Row w' g n V e := h.kept (hb.block g h.lt hne)
theorem Row.set (h : Row w g n V e) (i : Nat) (v : Value) : Row (w.setCell ⟨g, i, none⟩ v) g n (updV V i v) e := by
  obtain ⟨cur, h0, hs, hall⟩ := h
  refine ⟨_, heap_setCell_same w g i cur e _ h0, by simpa using hs, fun j hj => ?_⟩
  simp only [Array.getElem?_setIfInBounds]
  by_cases hji : j = i
  · subst hji; rw [if_pos rfl, if_pos (by omega)]; simp [updV]
  · rw [if_neg (by omega), hall j hj]; simp [updV, hji]
theorem Row.other (h : Row w g n V e) {a : Addr} (ha : a.block ≠ g) (v : Value) : Row (w.setCell a v) g n V e := h.kept (heap_setCell_other w a g v (Ne.symm ha))
theorem Row.congr {V' : Nat → Value} (h : Row w g n V e) (hV : ∀ j, j < n → V j = V' j) : Row w g n V' e := by
  obtain ⟨cur, h0, hs, hall⟩ := h
  exact ⟨cur, h0, hs, fun j hj => by rw [← hV j hj]; exact hall j hj⟩
theorem Row.alloc (h : Row w g n V e) (o : Obj) : Row (w.alloc o) g n V e := h.kept (Below.heap_alloc w o g h.lt)
end

theorem row_of_owns {w : World} {base : Nat} {e : TypeId} {g n : Nat} {z : Value} (h : w.ownsRow base e 1 (.slice (some ⟨g, 0, none⟩) n n) n (List.replicate n z)) : Row w g n (fun _ => z) e := by
  rcases h.2 with ⟨h', _⟩ | ⟨g', cap', cur, h', _, hg, _, _, hs, ht⟩
  · simp at h'
  · simp only [Value.slice.injEq, Option.some.injEq, Addr.mk.injEq, and_true, true_and] at h'
    obtain ⟨rfl, rfl⟩ := h'
    refine ⟨cur, hg, by omega, fun j hj => ?_⟩
    have h1 : cur.toList = List.replicate n z := by rw [← ht, List.take_of_length_le (by simp; omega)]
    have h2 : cur[j]? = cur.toList[j]? := by simp
    rw [h2, h1]
    simp [hj]

/-- The references made so far: the first k. -/
def RefsTo (w : World) (g n k : Nat) (st en : Nat → Int) (ch : Nat → Nat) : Prop :=
  ∃ cur : Array Value, Blk w g cur 34 ∧ cur.size = n * 5 ∧ ∀ j, j < k → cur[j * 5]? = some (.int .i64 (st j)) ∧ cur[j * 5 + 1]? = some (.int .i64 (en j)) ∧
    cur[j * 5 + 2]? = some (.pointer (some ⟨ch j, 0, none⟩)) ∧ cur[j * 5 + 3]? = some (.int .i32 0) ∧ cur[j * 5 + 4]? = some (.int .i32 0)

section
variable {w w' : World} {g n k : Nat} {st en : Nat → Int} {ch : Nat → Nat}
theorem RefsTo.all (h : RefsTo w g n n st en ch) : Refs w g n st en ch (fun _ => 0) (fun _ => 0) := h
theorem RefsTo.lt (h : RefsTo w g n k st en ch) : g < w.heap.size := by
  obtain ⟨cur, h0, _⟩ := h
  exact (Array.getElem?_eq_some_iff.1 h0).1
theorem RefsTo.free (h : RefsTo w g n k st en ch) (j : Nat) : w.frozen? ⟨g, j, none⟩ = false := by
  obtain ⟨cur, h0, _⟩ := h
  exact frozen_of_row w g j _ _ h0
theorem RefsTo.there (h : RefsTo w g n k st en ch) (j : Nat) (hj : j < n * 5) : ∃ v, w.cell? ⟨g, j, none⟩ = some v := by
  obtain ⟨cur, h0, hs, _⟩ := h
  exact ⟨cur[j]'(by omega), by rw [cell_of_row w g _ _ _ _ h0]; simp⟩
theorem RefsTo.kept (h : RefsTo w g n k st en ch) (he : w'.heap[g]? = w.heap[g]?) : RefsTo w' g n k st en ch := by
  obtain ⟨cur, h0, hr⟩ := h
  exact ⟨cur, he.trans h0, hr⟩
theorem RefsTo.alloc (h : RefsTo w g n k st en ch) (o : Obj) : RefsTo (w.alloc o) g n k st en ch := h.kept (Below.heap_alloc w o g h.lt)
theorem RefsTo.drew (h : RefsTo w g n k st en ch) : RefsTo w.drew g n k st en ch := h
theorem RefsTo.put (h : RefsTo w g n k st en ch) (hk : k < n) (c : Nat) :
    RefsTo (((((w.setCell ⟨g, k * 5, none⟩ (.int .i64 (st k))).setCell ⟨g, k * 5 + 1, none⟩ (.int .i64 (en k))).setCell ⟨g, k * 5 + 2, none⟩ (.pointer (some ⟨c, 0, none⟩))).setCell ⟨g, k * 5 + 3, none⟩ (.int .i32 0)).setCell ⟨g, k * 5 + 4, none⟩ (.int .i32 0)) g n (k + 1) st en (fun j => if j = k then c else ch j) := by
  obtain ⟨cur, h0, hs, hall⟩ := h
  have h1 := heap_setCell_same _ g (k * 5 + 4) _ 34 (.int .i32 0) (heap_setCell_same _ g (k * 5 + 3) _ 34 (.int .i32 0) (heap_setCell_same _ g (k * 5 + 2) _ 34 (.pointer (some ⟨c, 0, none⟩)) (heap_setCell_same _ g (k * 5 + 1) _ 34 (.int .i64 (en k)) (heap_setCell_same w g (k * 5) cur 34 (.int .i64 (st k)) h0))))
  refine ⟨_, h1, by simpa using hs, fun j hj => ?_⟩
  simp only [Array.getElem?_setIfInBounds, Array.size_setIfInBounds]
  by_cases hjk : j = k
  · subst hjk
    refine ⟨?_, ?_, ?_, ?_, ?_⟩
    · rw [if_neg (by omega), if_neg (by omega), if_neg (by omega), if_neg (by omega), if_pos rfl, if_pos (by omega)]
    · rw [if_neg (by omega), if_neg (by omega), if_neg (by omega), if_pos rfl, if_pos (by omega)]
    · rw [if_neg (by omega), if_neg (by omega), if_pos rfl, if_pos (by omega), if_pos rfl]
    · rw [if_neg (by omega), if_pos rfl, if_pos (by omega)]
    · rw [if_pos rfl, if_pos (by omega)]
  · obtain ⟨a, b, c', d, e⟩ := hall j (by omega)
    refine ⟨?_, ?_, ?_, ?_, ?_⟩
    all_goals rw [if_neg (by omega), if_neg (by omega), if_neg (by omega), if_neg (by omega), if_neg (by omega)]
    · exact a
    · exact b
    · rw [if_neg hjk]; exact c'
    · exact d
    · exact e
end

/-! ### The segments -/

/-- From a on, up to j, each reference goes on the run of the one before it; reference j does not. -/
theorem seg_RE {jn : Nat → Bool} {dp : Nat → Int} {n a j : Nat} (hjn : j ≤ n) (hlast : jn (j - 1) = false) (hseg : ∀ k, a < k → k < j → jn (k - 1) = true) : ∀ m k, j - k = m → a ≤ k → k < j → RE jn dp n k = (j : Int)
  | 0, k, h, _, hk => by omega
  | m + 1, k, h, ha, hk => by
    by_cases hl : k + 1 = j
    · rw [RE_not (by omega) (by rw [← hlast]; congr 1; omega)]; omega
    · rw [RE_yes (by omega) (by have := hseg (k + 1) (by omega) (by omega); simpa using this)]
      exact seg_RE hjn hlast hseg m (k + 1) (by omega) (by omega) (by omega)

/-- The best depth so far, of a mark. -/
def best (dp : Nat → Int) (mark : Int) : Int := if 0 ≤ mark then dp mark.toNat else 0

/-- The mark of the part of a segment from m on (-1 where nothing is left). -/
def markFrom (jn : Nat → Bool) (dp : Nat → Int) (n j m : Nat) : Int := if m = j then -1 else RM jn dp n m

theorem mark_step {jn : Nat → Bool} {dp : Nat → Int} {n a j k : Nat} (hjn : j ≤ n) (hlast : jn (j - 1) = false) (hseg : ∀ t, a < t → t < j → jn (t - 1) = true) (ha : a ≤ k) (hk : k < j) :
    RM jn dp n k = if 0 < dp k ∧ best dp (markFrom jn dp n j (k + 1)) ≤ dp k then (k : Int) else markFrom jn dp n j (k + 1) := by
  unfold best markFrom
  by_cases hl : k + 1 = j
  · rw [if_pos hl, RM_not (by omega) (by rw [← hlast]; congr 1; omega)]
    unfold own
    simp only [show ¬ (0 : Int) ≤ -1 by omega, if_false]
    by_cases hd : 0 < dp k
    · rw [if_pos hd, if_pos ⟨hd, by omega⟩]
    · rw [if_neg hd, if_neg (fun h => hd h.1)]
  · rw [if_neg hl]
    have hj := hseg (k + 1) (by omega) (by omega)
    rw [RM_yes (by omega) (by simpa using hj)]
    rcases RM_range (jn := jn) (dp := dp) (n := n) _ (k + 1) rfl (by omega) with h1 | ⟨h1, h2, h3⟩
    · rw [h1]
      unfold own
      simp only [show ¬ (0 : Int) ≤ -1 by omega, if_false, false_and]
      by_cases hd : 0 < dp k
      · rw [if_pos hd, if_pos ⟨hd, by omega⟩]
      · rw [if_neg hd, if_neg (fun h => hd h.1)]
    · rw [if_pos (show (0 : Int) ≤ RM jn dp n (k + 1) by omega)]
      by_cases hd : dp k < dp (RM jn dp n (k + 1)).toNat
      · rw [if_pos ⟨by omega, hd⟩, if_neg (by omega)]
      · rw [if_neg (fun h => hd h.2), if_pos ⟨by omega, by omega⟩]
        unfold own
        rw [if_pos (by omega)]

end Go.Proofs.Qxb6003776a
