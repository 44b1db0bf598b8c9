/-
  PLAIN MATHEMATICS for the four laws of this seat: no Go in sight but the model's 'bits' on bytes.
-/
import Derived.Laws.BitsAllLaws
namespace Go.Proofs.Qxb6003731a

/-- Bit p of the octets f, bit 0 the most significant bit of f 0. -/
def bitAt (f : Nat → Nat) (p : Nat) : Nat := f (p / 8) / 2 ^ (7 - p % 8) % 2

/-- t is how many of g 0, g 1, .., g (N-1), from the first on, are b. -/
def IsTrail (g : Nat → Nat) (b N t : Nat) : Prop := t ≤ N ∧ (∀ j, j < t → g j = b) ∧ (t < N → g t ≠ b)

theorem IsTrail.unique {g : Nat → Nat} {b N s t : Nat} (hs : IsTrail g b N s) (ht : IsTrail g b N t) : s = t := by
  obtain ⟨s1, s2, s3⟩ := hs
  obtain ⟨t1, t2, t3⟩ := ht
  rcases Nat.lt_trichotomy s t with h | h | h
  · exact absurd (t2 s h) (s3 (by omega))
  · exact h
  · exact absurd (s2 t h) (t3 (by omega))

theorem IsTrail.congr {g h : Nat → Nat} {b c N t : Nat} (hg : IsTrail g b N t) (he : ∀ j, j < N → (g j = b ↔ h j = c)) : IsTrail h c N t := by
  obtain ⟨h1, h2, h3⟩ := hg
  exact ⟨h1, fun j hj => (he j (by omega)).1 (h2 j hj), fun ht hh => h3 ht ((he t ht).2 hh)⟩

/-- The walk's test on one bit of a byte. -/
theorem bit_test (x e b : Nat) (hx : x < 256) : (bits BinOp.and IntKind.u8 ((x : Int) / 2 ^ e) 1 == (b : Int)) = decide (x / 2 ^ e % 2 = b) := by
  have h1 : ((x : Int) / 2 ^ e) = ((x / 2 ^ e : Nat) : Int) := by simp
  have h2 : x / 2 ^ e < 256 := Nat.lt_of_le_of_lt (Nat.div_le_self _ _) hx
  have h3 := u8_and_nat (x / 2 ^ e) 1 h2 (by decide)
  rw [Nat.and_one_is_mod] at h3
  rw [h1, show (1 : Int) = ((1 : Nat) : Int) from rfl, h3]
  rw [Bool.eq_iff_iff]
  simp
  omega

end Go.Proofs.Qxb6003731a
