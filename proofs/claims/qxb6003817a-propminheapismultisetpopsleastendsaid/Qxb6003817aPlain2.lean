/-
  PLAIN MATHEMATICS for the heap's law: the heap order, sifting up and down.
-/
import Derived.Test.Qxb6003817aSmall
namespace Go.Proofs.Qxb6003817a
/-- The end of rider i. -/
def key (l : List Rid) (i : Nat) : Int := (l[i]?.getD (0, 0, 0, 0)).1

theorem key_some {l : List Rid} {i : Nat} {r : Rid} (h : l[i]? = some r) : key l i = r.1 := by unfold key; rw [h]; rfl

/-- The exchange of riders a and b. -/
def swap (l : List Rid) (a b : Nat) (ra rb : Rid) : List Rid := (l.set a rb).set b ra

theorem swap_len (l : List Rid) (a b : Nat) (ra rb : Rid) : (swap l a b ra rb).length = l.length := by simp [swap]

theorem swap_key {l : List Rid} {a b : Nat} {ra rb : Rid} (ha : l[a]? = some ra) (hb : l[b]? = some rb) (i : Nat) :
    key (swap l a b ra rb) i = if i = b then key l a else if i = a then key l b else key l i := by
  have la := (List.getElem?_eq_some_iff.1 ha).1
  have lb := (List.getElem?_eq_some_iff.1 hb).1
  unfold swap
  by_cases h1 : i = b
  · subst h1
    rw [if_pos rfl, key_some ha]
    apply key_some
    simp [lb]
  · rw [if_neg h1]
    by_cases h2 : i = a
    · subst h2
      rw [if_pos rfl, key_some hb]
      apply key_some
      rw [List.getElem?_set_ne (by omega)]
      simp [la]
    · rw [if_neg h2]
      unfold key
      rw [List.getElem?_set_ne (by omega), List.getElem?_set_ne (by omega)]

theorem swap_perm {l : List Rid} {a b : Nat} {ra rb : Rid} (ha : l[a]? = some ra) (hb : l[b]? = some rb) : (swap l a b ra rb).Perm l := by
  obtain ⟨la, rfl⟩ := List.getElem?_eq_some_iff.1 ha
  obtain ⟨lb, rfl⟩ := List.getElem?_eq_some_iff.1 hb
  exact List.set_set_perm la lb

/-- No child comes before its parent, but perhaps k; and k's children do not come before k's parent. -/
def Up (l : List Rid) (k : Nat) : Prop :=
  (∀ i, 0 < i → i < l.length → i ≠ k → ¬ key l i < key l ((i - 1) / 4)) ∧ ∀ i, 0 < k → 0 < i → i < l.length → (i - 1) / 4 = k → ¬ key l i < key l ((k - 1) / 4)

def Ord (l : List Rid) : Prop := ∀ i, 0 < i → i < l.length → ¬ key l i < key l ((i - 1) / 4)

theorem Up.zero {l : List Rid} (h : Up l 0) : Ord l := fun i h0 h1 => h.1 i h0 h1 (by omega)
theorem Up.stop {l : List Rid} {k : Nat} (h : Up l k) (hk : ¬ key l k < key l ((k - 1) / 4)) : Ord l := fun i h0 h1 => by
  by_cases e : i = k
  · subst e; exact hk
  · exact h.1 i h0 h1 e

theorem Up.start {l : List Rid} (h : Ord l) (x : Rid) : Up (l ++ [x]) l.length := by
  have hk : ∀ i, i < l.length → key (l ++ [x]) i = key l i := fun i hi => by unfold key; rw [List.getElem?_append_left hi]
  refine ⟨fun i h0 h1 h2 => ?_, fun i h0 h1 h2 h3 => ?_⟩
  · simp at h1
    rw [hk i (by omega), hk _ (by omega)]
    exact h i h0 (by omega)
  · simp at h2
    omega

theorem Up.step {l : List Rid} {k : Nat} {ra rb : Rid} (h : Up l k) (hk0 : 0 < k) (ha : l[k]? = some ra) (hb : l[(k - 1) / 4]? = some rb) (hlt : ra.1 < rb.1) : Up (swap l k ((k - 1) / 4) ra rb) ((k - 1) / 4) := by
  have la := (List.getElem?_eq_some_iff.1 ha).1
  have e1 : key l k = ra.1 := key_some ha
  have e2 : key l ((k - 1) / 4) = rb.1 := key_some hb
  have hs := swap_key ha hb
  unfold Up
  rw [swap_len]
  generalize hp : (k - 1) / 4 = p at *
  refine ⟨fun i h0 h1 h2 => ?_, fun i h0 h1 h2 h3 => ?_⟩
  · rw [hs i, hs ((i - 1) / 4), if_neg h2]
    by_cases hik : i = k
    · subst hik
      rw [if_pos rfl, hp, if_pos rfl]
      omega
    · rw [if_neg hik]
      have hi := h.1 i h0 h1 hik
      by_cases hpk : (i - 1) / 4 = p
      · rw [if_pos hpk]
        rw [hpk] at hi
        omega
      · rw [if_neg hpk]
        by_cases hkk : (i - 1) / 4 = k
        · rw [if_pos hkk]
          have := h.2 i hk0 h0 h1 hkk
          rw [hp] at this
          omega
        · rw [if_neg hkk]; exact hi
  · have hq : ¬ key l p < key l ((p - 1) / 4) := h.1 p h0 (by omega) (by omega)
    rw [hs i, hs ((p - 1) / 4), if_neg (show i ≠ p by omega), if_neg (show (p - 1) / 4 ≠ p by omega), if_neg (show (p - 1) / 4 ≠ k by omega)]
    by_cases hik : i = k
    · rw [if_pos hik]; exact hq
    · rw [if_neg hik]
      have hi := h.1 i h1 h2 hik
      rw [h3] at hi
      omega
end Go.Proofs.Qxb6003817a
