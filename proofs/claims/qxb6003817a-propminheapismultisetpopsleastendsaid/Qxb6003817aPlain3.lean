/-
  PLAIN MATHEMATICS for the heap's law: sifting down; the least; the model.
-/
import Derived.Test.Qxb6003817aPlain2
namespace Go.Proofs.Qxb6003817a

/-- No child comes before its parent, but perhaps the children of k; and k's children do not come before k's parent. -/
def Down (l : List Rid) (k : Nat) : Prop :=
  (∀ i, 0 < i → i < l.length → (i - 1) / 4 ≠ k → ¬ key l i < key l ((i - 1) / 4)) ∧ ∀ i, 0 < k → 0 < i → i < l.length → (i - 1) / 4 = k → ¬ key l i < key l ((k - 1) / 4)

/-- m is k or one of its children below c, and comes no later than k and each child below c. -/
def Least (l : List Rid) (k m c : Nat) : Prop :=
  (m = k ∨ ((m - 1) / 4 = k ∧ 0 < m)) ∧ m < l.length ∧ ¬ key l k < key l m ∧ ∀ i, 0 < i → i < c → (i - 1) / 4 = k → i < l.length → ¬ key l i < key l m

theorem Down.stop {l : List Rid} {k : Nat} (h : Down l k) (hl : ∀ i, 0 < i → (i - 1) / 4 = k → i < l.length → ¬ key l i < key l k) : Ord l := fun i h0 h1 => by
  by_cases e : (i - 1) / 4 = k
  · rw [e]; exact hl i h0 e h1
  · exact h.1 i h0 h1 e

theorem Down.step {l : List Rid} {k m : Nat} {rk rm : Rid} (h : Down l k) (hk : l[k]? = some rk) (hm : l[m]? = some rm) (hne : m ≠ k) (hL : (m - 1) / 4 = k ∧ 0 < m) (h1 : ¬ key l k < key l m)
    (h2 : ∀ i, 0 < i → (i - 1) / 4 = k → i < l.length → ¬ key l i < key l m) : Down (swap l k m rk rm) m := by
  have lk := (List.getElem?_eq_some_iff.1 hk).1
  have lm := (List.getElem?_eq_some_iff.1 hm).1
  have hs := swap_key hk hm
  obtain ⟨hp, hm0⟩ := hL
  have hkm : k < m := by omega
  unfold Down
  rw [swap_len]
  refine ⟨fun i h0 hi hpi => ?_, fun i h0 h0' hi hpi => ?_⟩
  · rw [hs i, hs ((i - 1) / 4), if_neg hpi]
    by_cases him : i = m
    · subst him
      rw [if_pos rfl, hp, if_pos rfl]
      exact h1
    · rw [if_neg him]
      by_cases hik : i = k
      · subst hik
        rw [if_pos rfl, if_neg (by omega)]
        exact h.2 m h0 hm0 lm hp
      · rw [if_neg hik]
        by_cases hpk : (i - 1) / 4 = k
        · rw [if_pos hpk]
          exact h2 i h0 hpk hi
        · rw [if_neg hpk]
          exact h.1 i h0 hi hpk
  · rw [hs i, hs ((m - 1) / 4), hp, if_neg (show i ≠ m by omega), if_neg (show i ≠ k by omega), if_neg (show k ≠ m by omega), if_pos rfl]
    have := h.1 i h0' hi (by omega)
    rw [hpi] at this
    exact this

/-- The top comes before none later than the others. -/
theorem Ord.top {l : List Rid} (h : Ord l) : ∀ n i, i ≤ n → i < l.length → ¬ key l i < key l 0
  | 0, i, hi, _ => by obtain rfl : i = 0 := by omega
                      omega
  | n + 1, i, hi, hl => by
    by_cases h0 : i = 0
    · subst h0; omega
    · have h1 := h i (by omega) hl
      have h2 := h.top n ((i - 1) / 4) (by omega) (by omega)
      omega

/-- What is left when the top is taken and the last put in its place. -/
def popped (l : List Rid) (z : Rid) : List Rid := (l.set 0 z).take (l.length - 1)

theorem popped_len (l : List Rid) (z : Rid) : (popped l z).length = l.length - 1 := by simp [popped]

theorem popped_perm {l : List Rid} {t z : Rid} (ht : l[0]? = some t) (hz : l[l.length - 1]? = some z) : l.Perm (t :: popped l z) := by
  match l, ht with
  | a :: r, ht =>
    obtain rfl : a = t := by simpa using ht
    unfold popped
    simp only [List.set_cons_zero, List.length_cons, Nat.add_sub_cancel]
    by_cases hr : r = []
    · subst hr; simp
    · have hlen : 0 < r.length := List.length_pos_iff.2 hr
      have e1 : r.dropLast ++ [r.getLast hr] = r := List.dropLast_concat_getLast hr
      have e2 : r.getLast hr = z := by
        simp only [List.length_cons, Nat.add_sub_cancel] at hz
        rw [List.getLast_eq_getElem]
        have h1 : (a :: r)[r.length]? = r[r.length - 1]? := by
          obtain ⟨q, hq⟩ : ∃ q, r.length = q + 1 := ⟨r.length - 1, by omega⟩
          rw [hq]
          simp
        rw [h1, List.getElem?_eq_getElem (show r.length - 1 < r.length by omega)] at hz
        simpa using hz
      have e3 : (z :: r).take r.length = z :: r.dropLast := by
        rw [show r.length = r.length - 1 + 1 by omega, List.take_succ_cons, List.dropLast_eq_take]
      rw [e3, ← e2]
      refine List.Perm.cons a ?_
      conv => lhs; rw [← e1]
      exact List.perm_append_comm (l₁ := r.dropLast) (l₂ := [r.getLast hr])

theorem popped_key {l : List Rid} {z : Rid} {i : Nat} (h0 : 0 < i) (hi : i < l.length - 1) : key (popped l z) i = key l i := by
  unfold key popped
  rw [List.getElem?_take_of_lt hi, List.getElem?_set_ne (by omega)]

theorem popped_down {l : List Rid} {z : Rid} (h : Ord l) : Down (popped l z) 0 := by
  refine ⟨fun i h0 hi hp => ?_, fun i h0 => by omega⟩
  rw [popped_len] at hi
  rw [popped_key h0 hi, popped_key (by omega) (by omega)]
  exact h i h0 (by omega)

end Go.Proofs.Qxb6003817a
