/-
  PLAIN MATHEMATICS for FnTrailingBitsArithmetic.
-/
import Derived.Test.Qxb6003731aPlain
namespace Go.Proofs.Qxb6003731a

/-- Octet j of x written big-endian in eight octets. -/
def beF (x j : Nat) : Nat := x / 256 ^ (7 - j) % 256

theorem beF_bit (x j : Nat) (hj : j < 64) : bitAt (beF x) (8 * 8 - 1 - j) = x / 2 ^ j % 2 := by
  unfold bitAt beF
  have e1 : 7 - (8 * 8 - 1 - j) / 8 = j / 8 := by omega
  have e2 : 7 - (8 * 8 - 1 - j) % 8 = j % 8 := by omega
  rw [e1, e2, ← Nat.toNat_testBit, ← Nat.toNat_testBit]
  congr 1
  rw [show (256 : Nat) ^ (j / 8) = 2 ^ (8 * (j / 8)) by rw [Nat.pow_mul], show (256 : Nat) = 2 ^ 8 from rfl, Nat.testBit_mod_two_pow, Nat.testBit_div_two_pow]
  have e3 : j % 8 < 8 := by omega
  simp [e3]
  congr 1
  omega

/-- The trailing run of b among the 64 bits of x. -/
abbrev Run (x b t : Nat) : Prop := IsTrail (fun j => x / 2 ^ j % 2) b 64 t

theorem run_of_be {x b t : Nat} (h : IsTrail (fun j => bitAt (beF x) (8 * 8 - 1 - j)) b (8 * 8) t) : Run x b t :=
  h.congr (fun j hj => by simp only [beF_bit x j hj])

theorem low_zero (x : Nat) : ∀ t, (∀ j, j < t → x / 2 ^ j % 2 = 0) → x % 2 ^ t = 0
  | 0, _ => by simp [Nat.mod_one]
  | t + 1, h => by
    have ih := low_zero x t (fun j hj => h j (by omega))
    have hb := h t (by omega)
    rw [Nat.pow_succ, Nat.mod_mul, ih, hb]
    simp

theorem low_one (x : Nat) : ∀ t, (∀ j, j < t → x / 2 ^ j % 2 = 1) → x % 2 ^ t + 1 = 2 ^ t
  | 0, _ => by simp [Nat.mod_one]
  | t + 1, h => by
    have ih := low_one x t (fun j hj => h j (by omega))
    have hb := h t (by omega)
    rw [Nat.pow_succ, Nat.mod_mul, hb]
    omega

theorem run_zero {t : Nat} (h : Run 0 0 t) : t = 64 := by
  obtain ⟨h1, _, h3⟩ := h
  by_cases ht : t < 64
  · exact absurd (by simp) (h3 ht)
  · omega

theorem run_pos {x t : Nat} (hx : x < 2 ^ 64) (h0 : x ≠ 0) (h : Run x 0 t) : t < 64 ∧ x % 2 ^ t = 0 ∧ x / 2 ^ t % 2 = 1 := by
  obtain ⟨h1, h2, h3⟩ := h
  have hm := low_zero x t h2
  have ht : t < 64 := by
    by_cases ht : t < 64
    · exact ht
    · have e : t = 64 := by omega
      subst e
      rw [Nat.mod_eq_of_lt hx] at hm
      exact absurd hm h0
  refine ⟨ht, hm, ?_⟩
  have := h3 ht
  have h4 : x / 2 ^ t % 2 ≠ 0 := this
  omega

theorem run_max {t : Nat} (h : Run 18446744073709551615 1 t) : t = 64 := by
  obtain ⟨h1, _, h3⟩ := h
  by_cases ht : t < 64
  · refine absurd ?_ (h3 ht)
    show 18446744073709551615 / 2 ^ t % 2 = 1
    have e := Nat.toNat_testBit 18446744073709551615 t
    rw [← e, show (18446744073709551615 : Nat) = 2 ^ 64 - 1 from rfl, Nat.testBit_two_pow_sub_one]
    simp [ht]
  · omega

theorem run_succ {x s t : Nat} (hx : x < 18446744073709551615) (hs : Run x 1 s) (ht : Run (x + 1) 0 t) : t = s := by
  obtain ⟨h1, h2, h3⟩ := hs
  have hm := low_one x s h2
  have hs64 : s < 64 := by
    by_cases hs : s < 64
    · exact hs
    · have e : s = 64 := by omega
      subst e
      rw [Nat.mod_eq_of_lt (by omega)] at hm
      omega
  have hb : x / 2 ^ s % 2 = 0 := by
    have h4 : x / 2 ^ s % 2 ≠ 1 := h3 hs64
    omega
  have hd := Nat.div_add_mod x (2 ^ s)
  have he : x + 1 = 2 ^ s * (x / 2 ^ s + 1) := by rw [Nat.mul_add]; omega
  refine IsTrail.unique ht ⟨h1, fun j hj => ?_, fun _ => ?_⟩
  · show (x + 1) / 2 ^ j % 2 = 0
    obtain ⟨d, rfl⟩ : ∃ d, s = j + d + 1 := ⟨s - j - 1, by omega⟩
    generalize x / 2 ^ (j + d + 1) + 1 = c at he
    rw [he, show 2 ^ (j + d + 1) * c = 2 ^ j * (2 * (2 ^ d * c)) by
      rw [Nat.pow_succ, Nat.pow_add]; simp only [Nat.mul_comm, Nat.mul_left_comm]]
    rw [Nat.mul_div_cancel_left _ (Nat.two_pow_pos j)]
    omega
  · show (x + 1) / 2 ^ s % 2 ≠ 0
    rw [he, Nat.mul_div_cancel_left _ (Nat.two_pow_pos s)]
    omega

end Go.Proofs.Qxb6003731a
