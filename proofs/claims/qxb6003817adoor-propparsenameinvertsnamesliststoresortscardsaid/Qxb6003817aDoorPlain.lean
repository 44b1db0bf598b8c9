/-
  Numerals: what 'decDigits' writes and what 'parseUintB' reads: the plain laws. No Go in sight.
-/
import Derived.Lib.ItoaNum
import Derived.Lib.ParseIntBCases
import GoSem.Dispatch
namespace Go.Proofs.Qxb6003817aDoor
open Go.Lib

def valF (acc : Nat) (l : List UInt8) : Nat := l.foldl (fun a c => a * 10 + (c.toNat - 48)) acc

theorem valF_nil (acc : Nat) : valF acc [] = acc := by rw [valF, List.foldl_nil]
theorem valF_one (acc : Nat) (c : UInt8) (r : List UInt8) : valF acc (c :: r) = valF (acc * 10 + (c.toNat - 48)) r := by rw [valF, valF, List.foldl_cons]

def AllDig (l : List UInt8) : Prop := ∀ b ∈ l, 48 ≤ b.toNat ∧ b.toNat ≤ 57

theorem valF_app (l : List UInt8) (c : UInt8) : ∀ acc, valF acc (l ++ [c]) = valF acc l * 10 + (c.toNat - 48) := by
  induction l with
  | nil => intro acc; rw [List.nil_append, valF_one, valF_nil, valF_nil]
  | cons x r ih => intro acc; rw [List.cons_append, valF_one, valF_one]; exact ih _

theorem valF_eq (l : List UInt8) : ∀ acc, valF acc l = acc * 10 ^ l.length + valF 0 l := by
  induction l with
  | nil => intro acc; simp [valF_nil]
  | cons x r ih =>
    intro acc
    rw [valF_one, ih, valF_one, ih (0 * 10 + _), List.length_cons, Nat.pow_succ]
    generalize 10 ^ r.length = p
    generalize x.toNat - 48 = d
    rw [Nat.add_mul, Nat.zero_mul, Nat.zero_add, Nat.add_assoc, Nat.mul_assoc, Nat.mul_comm 10 p]

theorem valF_cons (x : UInt8) (r : List UInt8) : valF 0 (x :: r) = (x.toNat - 48) * 10 ^ r.length + valF 0 r := by
  rw [valF_one, valF_eq, Nat.zero_mul, Nat.zero_add]

theorem AllDig.tail {x : UInt8} {r : List UInt8} (h : AllDig (x :: r)) : AllDig r := fun b hb => h b (List.mem_cons_of_mem _ hb)

theorem valF_lt {l : List UInt8} (h : AllDig l) : valF 0 l < 10 ^ l.length := by
  induction l with
  | nil => simp [valF_nil]
  | cons x r ih =>
    have h1 := ih h.tail
    have h2 := h x (List.mem_cons_self ..)
    rw [valF_cons, List.length_cons, Nat.pow_succ]
    have h3 : (x.toNat - 48) * 10 ^ r.length ≤ 9 * 10 ^ r.length := Nat.mul_le_mul_right _ (by omega)
    omega

theorem parse_ok {l : List UInt8} (h : AllDig l) : ∀ acc, valF acc l < 18446744073709551616 → parseUint10 acc l = .ok (valF acc l) := by
  induction l with
  | nil => intro acc _; rw [parseUint10, valF_nil]
  | cons x r ih =>
    intro acc hv
    have h2 := h x (List.mem_cons_self ..)
    have h3 : acc * 10 + (x.toNat - 48) ≤ valF acc (x :: r) := by
      rw [valF_one, valF_eq]
      have : 1 ≤ 10 ^ r.length := Nat.pos_of_ne_zero (by simp)
      have := Nat.mul_le_mul_left (acc * 10 + (x.toNat - 48)) this
      omega
    rw [parseUint10, if_pos h2, if_neg (by omega), if_neg (by omega), valF_one]
    exact ih h.tail _ (by rw [← valF_one]; exact hv)

theorem parse_inv {l : List UInt8} : ∀ acc u, parseUint10 acc l = .ok u → AllDig l ∧ u = valF acc l := by
  induction l with
  | nil =>
    intro acc u h
    rw [parseUint10] at h
    injection h with h
    refine ⟨fun b hb => ?_, h.symm⟩
    cases hb
  | cons x r ih =>
    intro acc u h
    rw [parseUint10] at h
    split at h
    · rename_i h2
      split at h
      · cases h
      · split at h
        · cases h
        · obtain ⟨h3, h4⟩ := ih _ _ h
          refine ⟨fun b hb => ?_, h4⟩
          rcases List.mem_cons.1 hb with rfl | hb
          · exact h2
          · exact h3 b hb
    · cases h

theorem dig_toNat {d : Nat} (h : d < 10) : (UInt8.ofNat (48 + d)).toNat = 48 + d := by
  rw [UInt8.toNat_ofNat']
  omega

theorem dec_all : ∀ u, AllDig (decDigits u) ∧ valF 0 (decDigits u) = u ∧ decDigits u ≠ [] ∧ (2 ≤ (decDigits u).length → ∃ c r, decDigits u = c :: r ∧ c.toNat ≠ 48)
    ∧ (u ≠ 0 → ∃ c r, decDigits u = c :: r ∧ c.toNat ≠ 48) := by
  intro u
  induction u using Nat.strongRecOn with
  | ind u ih =>
    rw [decDigits]
    split
    · rename_i h
      have e := dig_toNat h
      refine ⟨fun b hb => ?_, ?_, by simp, fun h2 => by simp at h2, fun hn => ⟨_, _, rfl, by rw [e]; omega⟩⟩
      · rw [List.mem_singleton] at hb
        subst hb
        rw [e]
        omega
      · rw [valF_one, valF_nil, e]
        omega
    · rename_i h
      obtain ⟨h1, h2, h3, _, h5⟩ := ih (u / 10) (by omega)
      have e := dig_toNat (show u % 10 < 10 by omega)
      have hx : ∃ c r, decDigits (u / 10) ++ [UInt8.ofNat (48 + u % 10)] = c :: r ∧ c.toNat ≠ 48 := by
        obtain ⟨c, r, e1, e2⟩ := h5 (by omega)
        exact ⟨c, r ++ [_], by rw [e1]; rfl, e2⟩
      refine ⟨fun b hb => ?_, ?_, by simp, fun _ => hx, fun _ => hx⟩
      · rcases List.mem_append.1 hb with hb | hb
        · exact h1 b hb
        · rw [List.mem_singleton] at hb
          subst hb
          rw [e]
          omega
      · rw [valF_app, h2, e]
        omega

theorem toNat_dig {c : UInt8} (h1 : 48 ≤ c.toNat) : UInt8.ofNat (48 + (c.toNat - 48)) = c := by
  rw [show 48 + (c.toNat - 48) = c.toNat by omega]
  exact UInt8.ofNat_toNat

/-- No leading zero: the numeral of its value. -/
theorem dec_val (l : List UInt8) : ∀ (_ : AllDig l) (_ : l ≠ []) (_ : ∀ c r, l = c :: r → r ≠ [] → c.toNat ≠ 48), decDigits (valF 0 l) = l := by
  suffices H : ∀ k, ∀ l : List UInt8, l.length = k → AllDig l → l ≠ [] → (∀ c r, l = c :: r → r ≠ [] → c.toNat ≠ 48) → decDigits (valF 0 l) = l from fun h1 h2 h3 => H _ l rfl h1 h2 h3
  intro k
  induction k with
  | zero => intro l hl _ hne; exact absurd (List.length_eq_zero_iff.1 hl) hne
  | succ k ih =>
    intro l hl hd hne hz
    obtain ⟨l', c, rfl⟩ : ∃ l' c, l = l' ++ [c] := ⟨l.dropLast, l.getLast hne, (List.dropLast_concat_getLast hne).symm⟩
    have hc := hd c (by simp)
    have hd' : AllDig l' := fun b hb => hd b (by simp [hb])
    rw [valF_app]
    cases l' with
    | nil =>
      rw [valF_nil, decDigits, dif_pos (by omega)]
      rw [Nat.zero_mul, Nat.zero_add, toNat_dig hc.1]
      rfl
    | cons x r =>
      have hx := hz x (r ++ [c]) rfl (by simp)
      have hx2 := hd' x (List.mem_cons_self ..)
      have hpos : 1 ≤ valF 0 (x :: r) := by
        rw [valF_cons]
        have : 1 ≤ 10 ^ r.length := Nat.pos_of_ne_zero (by simp)
        have h1 : 1 * 10 ^ r.length ≤ (x.toNat - 48) * 10 ^ r.length := Nat.mul_le_mul_right _ (by omega)
        omega
      rw [decDigits, dif_neg (by omega)]
      have e1 : (valF 0 (x :: r) * 10 + (c.toNat - 48)) / 10 = valF 0 (x :: r) := by omega
      have e2 : (valF 0 (x :: r) * 10 + (c.toNat - 48)) % 10 = c.toNat - 48 := by omega
      rw [e1, e2, toNat_dig hc.1, ih (x :: r) (by simp at hl ⊢; omega) hd' (by simp) (fun c' r' e h => by
        obtain ⟨rfl, rfl⟩ := List.cons.inj e
        exact hx)]

/-- '<=' on digits of one length. -/
theorem le_digits : ∀ (a b : List UInt8), AllDig a → AllDig b → a.length = b.length → ((Op.bytesLess a b || a == b) = true ↔ valF 0 a ≤ valF 0 b)
  | [], [], _, _, _ => by simp [valF_nil]
  | [], _ :: _, _, _, h => by simp at h
  | _ :: _, [], _, _, h => by simp at h
  | x :: a, y :: b, ha, hb, h => by
    have hl : a.length = b.length := by simpa using h
    have ih := le_digits a b ha.tail hb.tail hl
    have h1 := ha x (List.mem_cons_self ..)
    have h2 := hb y (List.mem_cons_self ..)
    have h3 := valF_lt ha.tail
    have h4 := valF_lt hb.tail
    rw [valF_cons, valF_cons, hl]
    rw [hl] at h3
    generalize 10 ^ b.length = p at h3 h4
    rcases Nat.lt_trichotomy x.toNat y.toNat with hlt | heq | hgt
    · have h5 : (x.toNat - 48 + 1) * p ≤ (y.toNat - 48) * p := Nat.mul_le_mul_right _ (by omega)
      rw [Nat.add_mul] at h5
      have e1 : Op.bytesLess (x :: a) (y :: b) = true := by simp [Op.bytesLess, UInt8.lt_iff_toNat_lt, hlt]
      rw [e1]
      simp
      omega
    · have hxy : x = y := UInt8.toNat_inj.1 heq
      subst hxy
      have e1 : Op.bytesLess (x :: a) (x :: b) = Op.bytesLess a b := by simp [Op.bytesLess]
      have e2 : ((x :: a) == (x :: b)) = (a == b) := by simp
      rw [e1, e2, ih]
      omega
    · have h5 : (y.toNat - 48 + 1) * p ≤ (x.toNat - 48) * p := Nat.mul_le_mul_right _ (by omega)
      rw [Nat.add_mul] at h5
      have hne : ¬ x = y := fun e => by rw [e] at hgt; omega
      have e1 : Op.bytesLess (x :: a) (y :: b) = false := by simp [Op.bytesLess, UInt8.lt_iff_toNat_lt, hne]; omega
      have e2 : ((x :: a) == (y :: b)) = false := by simp [hne]
      rw [e1, e2]
      simp
      omega

/-- The greatest uint64. -/
def maxDec : List UInt8 := [49, 56, 52, 52, 54, 55, 52, 52, 48, 55, 51, 55, 48, 57, 53, 53, 49, 54, 49, 53]

theorem maxDec_val : valF 0 maxDec = 18446744073709551615 := by decide +kernel
theorem maxDec_dig : AllDig maxDec := by unfold AllDig; decide +kernel

/-- How base 10 writes some uint64. -/
def IsDec (l : List UInt8) : Prop := l ≠ [] ∧ l.length ≤ 20 ∧ (∀ c r, l = c :: r → r ≠ [] → c.toNat ≠ 48) ∧ AllDig l ∧ (l.length < 20 ∨ (Op.bytesLess l maxDec || l == maxDec) = true)

theorem isDec_val {l : List UInt8} (h : IsDec l) : valF 0 l < 18446744073709551616 := by
  obtain ⟨_, h2, _, h4, h5⟩ := h
  have h6 := valF_lt h4
  by_cases hl : l.length < 20
  · have : 10 ^ l.length ≤ 10 ^ 19 := Nat.pow_le_pow_right (by omega) (by omega)
    have e : 10 ^ 19 = 10000000000000000000 := by decide +kernel
    omega
  · rcases h5 with h5 | h5
    · exact absurd h5 hl
    · have := (le_digits l maxDec h4 maxDec_dig (by rw [show maxDec.length = 20 from rfl]; omega)).1 h5
      rw [maxDec_val] at this
      omega

/-- What 'parseName' asks of the digits. -/
theorem dec_iff (l : List UInt8) : IsDec l ↔ ∃ u, parseUintB 64 l = .ok u ∧ decDigits u = l := by
  constructor
  · intro h
    have hv := isDec_val h
    obtain ⟨h1, h2, h3, h4, h5⟩ := h
    refine ⟨valF 0 l, ?_, dec_val l h4 h1 h3⟩
    rw [parseUintB_64, parseMag, if_neg h1]
    exact parse_ok h4 0 hv
  · rintro ⟨u, h1, h2⟩
    obtain ⟨d1, d2, d3, d4, _⟩ := dec_all u
    have hlt : u < 18446744073709551616 := by rw [parseUintB_64] at h1; exact parseMag_lt h1
    rw [h2] at d1 d2 d3 d4
    have hlen : l.length ≤ 20 := by
      rw [← h2, decDigits_length]
      by_cases h0 : u = 0
      · subst h0
        rw [nDigits_small (by omega)]
        omega
      · have := numDigits_eq u (by omega) hlt
        split at this <;> omega
    refine ⟨d3, hlen, fun c r e hr => ?_, d1, ?_⟩
    · obtain ⟨c', r', e1, e2⟩ := d4 (by rw [e]; cases r with | nil => exact absurd rfl hr | cons _ _ => simp)
      rw [e] at e1
      obtain ⟨rfl, rfl⟩ := List.cons.inj e1
      exact e2
    · by_cases hl : l.length < 20
      · exact .inl hl
      · refine .inr ((le_digits l maxDec d1 maxDec_dig (by rw [show maxDec.length = 20 from rfl]; omega)).2 ?_)
        rw [maxDec_val, d2]
        omega

/-- What is written is read back. -/
theorem parse_dec {u : Nat} (h : u < 18446744073709551616) : parseUintB 64 (decDigits u) = .ok u := by
  obtain ⟨d1, d2, d3, _, _⟩ := dec_all u
  rw [parseUintB_64, parseMag, if_neg d3, parse_ok d1 0 (by rw [d2]; exact h), d2]
end Go.Proofs.Qxb6003817aDoor
