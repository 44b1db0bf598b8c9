/-
  PLAIN MATHEMATICS for the heap's law: what is left of a multiset.
-/
import Derived.Below
namespace Go.Proofs.Qxb6003817a

/-- Those of m that are not marked in u. -/
def left {α : Type} : List Bool → List α → List α
  | b :: u, x :: m => if b then left u m else x :: left u m
  | _, _ => []

theorem left_all {α : Type} (m : List α) : left (List.replicate m.length false) m = m := by
  induction m with
  | nil => rfl
  | cons x m ih => simp only [List.length_cons, List.replicate_succ, left]; rw [ih]; rfl

theorem left_mem {α : Type} {x : α} : ∀ (u : List Bool) (m : List α), x ∈ left u m → ∃ j : Nat, u[j]? = some false ∧ m[j]? = some x
  | [], m, h => by simp [left] at h
  | b :: u, [], h => by simp [left] at h
  | true :: u, y :: m, h => by
    have h' : x ∈ left u m := by simpa [left] using h
    obtain ⟨j, h1, h2⟩ := left_mem u m h'
    exact ⟨j + 1, by simpa using h1, by simpa using h2⟩
  | false :: u, y :: m, h => by
    have h' : x = y ∨ x ∈ left u m := by simpa [left] using h
    rcases h' with rfl | h'
    · exact ⟨0, rfl, rfl⟩
    · obtain ⟨j, h1, h2⟩ := left_mem u m h'
      exact ⟨j + 1, by simpa using h1, by simpa using h2⟩

theorem left_take {α : Type} {x : α} : ∀ (u : List Bool) (m : List α) (j : Nat), u[j]? = some false → m[j]? = some x → (left u m).Perm (x :: left (u.set j true) m)
  | [], m, j, h1, h2 => by simp at h1
  | b :: u, [], j, h1, h2 => by simp at h2
  | b :: u, y :: m, 0, h1, h2 => by
    obtain rfl : b = false := by simpa using h1
    obtain rfl : y = x := by simpa using h2
    simp [left]
  | true :: u, y :: m, j + 1, h1, h2 => by
    have ih := left_take u m j (by simpa using h1) (by simpa using h2)
    simpa [left] using ih
  | false :: u, y :: m, j + 1, h1, h2 => by
    have ih := left_take u m j (by simpa using h1) (by simpa using h2)
    simp only [left, List.set_cons_succ]
    exact (ih.cons y).trans (List.Perm.swap x y _)

/-- One element found: what is left matches the rest. -/
theorem left_step {α : Type} {x : α} {u : List Bool} {m l : List α} {k j : Nat} (h : (left u m).Perm (l.drop k)) (hk : l[k]? = some x) (h1 : u[j]? = some false) (h2 : m[j]? = some x) :
    (left (u.set j true) m).Perm (l.drop (k + 1)) := by
  have hlt := (List.getElem?_eq_some_iff.1 hk).1
  have e : l.drop k = x :: l.drop (k + 1) := by
    rw [List.drop_eq_getElem_cons hlt]
    congr 1
    simpa [hlt] using hk
  rw [e] at h
  exact List.Perm.cons_inv ((left_take u m j h1 h2).symm.trans h)

theorem left_find {α : Type} {x : α} {u : List Bool} {m l : List α} {k : Nat} (h : (left u m).Perm (l.drop k)) (hk : l[k]? = some x) : ∃ j : Nat, u[j]? = some false ∧ m[j]? = some x := by
  refine left_mem u m (h.mem_iff.2 ?_)
  have hlt := (List.getElem?_eq_some_iff.1 hk).1
  rw [List.drop_eq_getElem_cons hlt]
  have : l[k] = x := by simpa [hlt] using hk
  rw [this]
  exact List.mem_cons_self

end Go.Proofs.Qxb6003817a
