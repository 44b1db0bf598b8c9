/-
  PLAIN MATHEMATICS for FnSettleRunsMatchesModel: the runs, from the right.
-/
import Derived.Below
namespace Go.Proofs.Qxb6003776a

/-- The run at index n - m: where it ends, and its mark. 'jn i': reference i + 1 goes on the run of i. 'dp i': the depth of i's chunk. -/
def runF (jn : Nat → Bool) (dp : Nat → Int) (n : Nat) : Nat → Int × Int
  | 0 => (0, -1)
  | m + 1 => if jn (n - (m + 1)) then ((runF jn dp n m).1, if 0 ≤ (runF jn dp n m).2 ∧ dp (n - (m + 1)) < dp (runF jn dp n m).2.toNat then (runF jn dp n m).2 else if 0 < dp (n - (m + 1)) then ((n - (m + 1) : Nat) : Int) else -1)
    else (((n - (m + 1) : Nat) : Int) + 1, if 0 < dp (n - (m + 1)) then ((n - (m + 1) : Nat) : Int) else -1)

def RE (jn : Nat → Bool) (dp : Nat → Int) (n i : Nat) : Int := (runF jn dp n (n - i)).1
def RM (jn : Nat → Bool) (dp : Nat → Int) (n i : Nat) : Int := (runF jn dp n (n - i)).2

/-- The reference's own mark. -/
def own (dp : Nat → Int) (i : Nat) : Int := if 0 < dp i then (i : Int) else -1

theorem RE_not {jn : Nat → Bool} {dp : Nat → Int} {n i : Nat} (hi : i < n) (h : jn i = false) : RE jn dp n i = (i : Int) + 1 := by
  unfold RE
  obtain ⟨m, hm⟩ : ∃ m, n - i = m + 1 := ⟨n - i - 1, by omega⟩
  rw [hm, runF]
  rw [show n - (m + 1) = i by omega, h]
  rfl

theorem RE_yes {jn : Nat → Bool} {dp : Nat → Int} {n i : Nat} (hi : i < n) (h : jn i = true) : RE jn dp n i = RE jn dp n (i + 1) := by
  unfold RE
  obtain ⟨m, hm⟩ : ∃ m, n - i = m + 1 := ⟨n - i - 1, by omega⟩
  rw [hm, runF]
  rw [show n - (m + 1) = i by omega, h, show n - (i + 1) = m by omega]
  rfl

theorem RM_not {jn : Nat → Bool} {dp : Nat → Int} {n i : Nat} (hi : i < n) (h : jn i = false) : RM jn dp n i = own dp i := by
  unfold RM own
  obtain ⟨m, hm⟩ : ∃ m, n - i = m + 1 := ⟨n - i - 1, by omega⟩
  rw [hm, runF]
  rw [show n - (m + 1) = i by omega, h]
  rfl

theorem RM_yes {jn : Nat → Bool} {dp : Nat → Int} {n i : Nat} (hi : i < n) (h : jn i = true) :
    RM jn dp n i = if 0 ≤ RM jn dp n (i + 1) ∧ dp i < dp (RM jn dp n (i + 1)).toNat then RM jn dp n (i + 1) else own dp i := by
  unfold RM own
  obtain ⟨m, hm⟩ : ∃ m, n - i = m + 1 := ⟨n - i - 1, by omega⟩
  rw [hm, runF]
  rw [show n - (m + 1) = i by omega, h, show n - (i + 1) = m by omega]
  rfl

theorem RM_yes_deeper {jn : Nat → Bool} {dp : Nat → Int} {n i : Nat} (hi : i < n) (h : jn i = true) (h0 : 0 ≤ RM jn dp n (i + 1)) (h1 : dp i < dp (RM jn dp n (i + 1)).toNat) : RM jn dp n i = RM jn dp n (i + 1) := by
  rw [RM_yes hi h, if_pos ⟨h0, h1⟩]

theorem RM_yes_none {jn : Nat → Bool} {dp : Nat → Int} {n i : Nat} (hi : i < n) (h : jn i = true) (h0 : RM jn dp n (i + 1) < 0) : RM jn dp n i = own dp i := by
  rw [RM_yes hi h, if_neg (by omega)]

theorem RM_yes_not {jn : Nat → Bool} {dp : Nat → Int} {n i : Nat} (hi : i < n) (h : jn i = true) (h1 : ¬ dp i < dp (RM jn dp n (i + 1)).toNat) : RM jn dp n i = own dp i := by
  rw [RM_yes hi h, if_neg (fun h => h1 h.2)]

/-- A mark is -1, or an index from i on, below n, of a depth above 0. -/
theorem RM_range {jn : Nat → Bool} {dp : Nat → Int} {n : Nat} : ∀ m i, n - i = m → i < n → RM jn dp n i = -1 ∨ ((i : Int) ≤ RM jn dp n i ∧ RM jn dp n i < n ∧ 0 < dp (RM jn dp n i).toNat)
  | 0, i, h, hi => by omega
  | m + 1, i, h, hi => by
    have hown : own dp i = -1 ∨ ((i : Int) ≤ own dp i ∧ own dp i < n ∧ 0 < dp (own dp i).toNat) := by
      unfold own
      by_cases hd : 0 < dp i
      · rw [if_pos hd]; right; refine ⟨by omega, by omega, ?_⟩; simpa using hd
      · rw [if_neg hd]; left; rfl
    cases hj : jn i with
    | false => rw [RM_not hi hj]; exact hown
    | true =>
      rw [RM_yes hi hj]
      by_cases hc : 0 ≤ RM jn dp n (i + 1) ∧ dp i < dp (RM jn dp n (i + 1)).toNat
      · rw [if_pos hc]
        by_cases hl : i + 1 < n
        · rcases RM_range (jn := jn) (dp := dp) m (i + 1) (by omega) hl with h1 | ⟨h1, h2, h3⟩
          · omega
          · right; exact ⟨by omega, h2, h3⟩
        · exfalso
          have : n - (i + 1) = 0 := by omega
          have hz : RM jn dp n (i + 1) = -1 := by unfold RM; rw [this]; rfl
          omega
      · rw [if_neg hc]; exact hown

theorem RE_range {jn : Nat → Bool} {dp : Nat → Int} {n : Nat} (hj : ∀ i, jn i = true → i + 1 < n) : ∀ m i, n - i = m → i < n → (i : Int) + 1 ≤ RE jn dp n i ∧ RE jn dp n i ≤ n
  | 0, i, h, hi => by omega
  | m + 1, i, h, hi => by
    cases hji : jn i with
    | false => rw [RE_not hi hji]; omega
    | true =>
      rw [RE_yes hi hji]
      have := RE_range (dp := dp) hj m (i + 1) (by omega) (hj i hji)
      omega

/-- Whether reference i + 1 goes on the run of i. -/
def joins (st en : Nat → Int) (sl : Nat → Bool) (n i : Nat) : Bool := decide (i + 1 < n) && (st (i + 1) == en i) && sl (i + 1)

end Go.Proofs.Qxb6003776a
