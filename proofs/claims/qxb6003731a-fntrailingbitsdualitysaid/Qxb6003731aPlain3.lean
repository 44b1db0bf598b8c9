/-
  PLAIN MATHEMATICS for FnTrailingBitsDuality.
-/
import Derived.Test.Qxb6003731aPlain2
namespace Go.Proofs.Qxb6003731a

/-- The octets of a list, as a function. -/
def oct (l : List Nat) (j : Nat) : Nat := l[j]?.getD 0

/-- Among the first k octets each is 0. -/
def allz (l : List Nat) (k : Nat) : Bool := (l.take k).all (· == 0)

theorem allz_zero (l : List Nat) : allz l 0 = true := by simp [allz]

theorem allz_succ (l : List Nat) (k : Nat) (hk : k < l.length) : allz l (k + 1) = (allz l k && (l[k]?.getD 0 == 0)) := by
  unfold allz
  rw [List.take_succ_eq_append_getElem hk, List.all_append]
  simp [hk]

theorem allz_iff (l : List Nat) : allz l l.length = true ↔ ∀ j, j < l.length → oct l j = 0 := by
  unfold allz oct
  rw [List.take_length, List.all_eq_true]
  constructor
  · intro h j hj
    have := h l[j] (List.getElem_mem hj)
    simpa [hj] using this
  · intro h x hx
    obtain ⟨j, hj, rfl⟩ := List.getElem_of_mem hx
    have := h j hj
    simpa [hj] using this

/-- The complement of each octet. -/
def compl (l : List Nat) : List Nat := l.map (255 - ·)

theorem compl_len (l : List Nat) : (compl l).length = l.length := by simp [compl]

theorem comp_bit (x e : Nat) (hx : x < 256) (he : e < 8) : (255 - x) / 2 ^ e % 2 = 1 - x / 2 ^ e % 2 := by
  rcases (show e = 0 ∨ e = 1 ∨ e = 2 ∨ e = 3 ∨ e = 4 ∨ e = 5 ∨ e = 6 ∨ e = 7 by omega) with rfl | rfl | rfl | rfl | rfl | rfl | rfl | rfl <;> omega

theorem compl_bit (l : List Nat) (hl : ∀ x ∈ l, x < 256) (p : Nat) (hp : p < 8 * l.length) : bitAt (oct (compl l)) p = 1 - bitAt (oct l) p := by
  have hq : p / 8 < l.length := by omega
  unfold bitAt oct compl
  rw [List.getElem?_map, List.getElem?_eq_getElem hq]
  exact comp_bit _ _ (hl _ (List.getElem_mem hq)) (by omega)

theorem bit_lt (f : Nat → Nat) (p : Nat) : bitAt f p < 2 := Nat.mod_lt _ (by decide)

abbrev Tail (l : List Nat) (b t : Nat) : Prop := IsTrail (fun j => bitAt (oct l) (8 * l.length - 1 - j)) b (8 * l.length) t

theorem tail_compl {l : List Nat} (hl : ∀ x ∈ l, x < 256) {b t : Nat} (hb : b ≤ 1) (h : Tail l b t) : Tail (compl l) (1 - b) t := by
  unfold Tail
  rw [compl_len]
  refine h.congr fun j hj => ?_
  rw [compl_bit l hl _ (by omega)]
  have := bit_lt (oct l) (8 * l.length - 1 - j)
  omega

theorem tail_compl_eq {l : List Nat} (hl : ∀ x ∈ l, x < 256) {b s t : Nat} (hb : b ≤ 1) (h : Tail l b t) (h2 : Tail (compl l) (1 - b) s) : s = t :=
  h2.unique (tail_compl hl hb h)

/-- Exactly one of the two counts is 0. -/
theorem tail_one {l : List Nat} (h0 : 0 < l.length) {s t : Nat} (hs : Tail l 0 s) (ht : Tail l 1 t) : (((s : Int) == 0) == ((t : Int) == 0)) = false := by
  obtain ⟨s1, s2, s3⟩ := hs
  obtain ⟨t1, t2, t3⟩ := ht
  have hb := bit_lt (oct l) (8 * l.length - 1 - 0)
  rcases (show bitAt (oct l) (8 * l.length - 1 - 0) = 0 ∨ bitAt (oct l) (8 * l.length - 1 - 0) = 1 by omega) with h | h
  · have hsp : 0 < s := by
      rcases Nat.eq_zero_or_pos s with e | e
      · subst e; exact absurd h (s3 (by omega))
      · exact e
    have htz : t = 0 := by
      rcases Nat.eq_zero_or_pos t with e | e
      · exact e
      · have := t2 0 e; simp only at this; omega
    subst htz
    simp
    omega
  · have htp : 0 < t := by
      rcases Nat.eq_zero_or_pos t with e | e
      · subst e; exact absurd h (t3 (by omega))
      · exact e
    have hsz : s = 0 := by
      rcases Nat.eq_zero_or_pos s with e | e
      · exact e
      · have := s2 0 e; simp only at this; omega
    subst hsz
    simp
    omega

theorem byte_zero (x : Nat) (hx : x < 256) (h : ∀ e, e < 8 → x / 2 ^ e % 2 = 0) : x = 0 := by
  have := low_zero x 8 h
  rw [Nat.mod_eq_of_lt hx] at this
  exact this

theorem tail_full {l : List Nat} (hl : ∀ x ∈ l, x < 256) {t : Nat} (ht : Tail l 0 t) : ((t : Int) == (l.length : Int) * 8) = allz l l.length := by
  obtain ⟨t1, t2, t3⟩ := ht
  rw [Bool.eq_iff_iff, allz_iff]
  constructor
  · intro h j hj
    have ht : t = 8 * l.length := by simp at h; omega
    have e : oct l j = l[j] := by simp [oct, hj]
    have hlt : oct l j < 256 := by rw [e]; exact hl _ (List.getElem_mem hj)
    refine byte_zero _ hlt fun e he => ?_
    have hb := t2 (8 * l.length - 1 - (8 * j + (7 - e))) (by omega)
    simp only at hb
    rw [show 8 * l.length - 1 - (8 * l.length - 1 - (8 * j + (7 - e))) = 8 * j + (7 - e) by omega] at hb
    unfold bitAt at hb
    rw [show (8 * j + (7 - e)) / 8 = j by omega, show 7 - (8 * j + (7 - e)) % 8 = e by omega] at hb
    exact hb
  · intro h
    have ht : t = 8 * l.length := by
      rcases Nat.lt_or_ge t (8 * l.length) with e | e
      · refine absurd ?_ (t3 e)
        show bitAt (oct l) _ = 0
        unfold bitAt
        rw [h _ (by omega)]
        simp
      · omega
    simp
    omega

theorem tail_big {l : List Nat} {b t : Nat} (hb : 1 < b) (ht : Tail l b t) : t = 0 := by
  obtain ⟨t1, t2, t3⟩ := ht
  rcases Nat.eq_zero_or_pos t with e | e
  · exact e
  · have := t2 0 e
    simp only at this
    have := bit_lt (oct l) (8 * l.length - 1 - 0)
    omega

end Go.Proofs.Qxb6003731a
