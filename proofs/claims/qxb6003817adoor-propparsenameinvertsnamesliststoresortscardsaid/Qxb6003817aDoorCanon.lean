/-
  'zzIsCanonName'.
-/
import Derived.Test.Qxb6003817aDoorDec
namespace Go.Proofs.Qxb6003817aDoor
open Go.RowKit Go.Lib

/-- The name of a segment or of a checkpoint. -/
def Canon (l : List UInt8) : Prop := (∃ d, l = seg ++ d ∧ IsDec d) ∨ ∃ d, l = chk ++ d ∧ IsDec d

theorem has_iff (l p : List UInt8) : hasPrefix l p = true ↔ l = p ++ l.drop p.length := by
  unfold hasPrefix
  rw [List.isPrefixOf_iff_prefix]
  constructor
  · rintro ⟨t, rfl⟩
    rw [List.drop_left]
  · intro h
    exact ⟨_, h.symm⟩

theorem seg_not_chk (a b : List UInt8) : seg ++ a ≠ chk ++ b := by
  intro h
  have := congrArg (fun l : List UInt8 => l.headD 0) h
  simp [seg, chk] at this

theorem canon_seg {l : List UInt8} (h : hasPrefix l seg = true) : Canon l ↔ IsDec (l.drop 4) := by
  have e := (has_iff l seg).1 h
  constructor
  · rintro (⟨d, hd, h1⟩ | ⟨d, hd, h1⟩)
    · rw [hd]; exact h1
    · rw [e] at hd; exact absurd hd (seg_not_chk _ _)
  · intro h1
    exact .inl ⟨_, e, h1⟩

theorem canon_chk {l : List UInt8} (h : hasPrefix l chk = true) : Canon l ↔ IsDec (l.drop 11) := by
  have e := (has_iff l chk).1 h
  constructor
  · rintro (⟨d, hd, h1⟩ | ⟨d, hd, h1⟩)
    · rw [e] at hd; exact absurd hd.symm (seg_not_chk _ _)
    · rw [hd]; exact h1
  · intro h1
    exact .inr ⟨_, e, h1⟩

theorem canon_none {l : List UInt8} (h1 : hasPrefix l seg = false) (h2 : hasPrefix l chk = false) : ¬ Canon l := by
  rintro (⟨d, hd, _⟩ | ⟨d, hd, _⟩)
  · have : hasPrefix l seg = true := (has_iff l seg).2 (by rw [hd, List.drop_left])
    rw [h1] at this; cases this
  · have : hasPrefix l chk = true := (has_iff l chk).2 (by rw [hd, List.drop_left])
    rw [h2] at this; cases this

theorem has_len {l p : List UInt8} (h : hasPrefix l p = true) : p.length ≤ l.length := by
  have e := congrArg List.length ((has_iff l p).1 h)
  rw [List.length_append] at e
  omega

theorem extract_data (s : ByteArray) (a : Nat) : (s.extract a s.size).data.toList = s.data.toList.drop a := by
  rw [← Lib.toList_data, Lib.extract_toList, List.take_of_length_le]
  rw [List.length_drop, Lib.size_eq]
  exact Nat.le_refl _

theorem has_seg (s : ByteArray) (w : World) {b : Bool} (h : hasPrefix s.data.toList seg = b) : Calls Tryd.prog 11 #[.string s, .string ⟨#[108, 111, 103, 46]⟩] w fun e w' => e = .returned (.bool b) ∧ w' = w := by
  rw [← h]
  exact zzHas s ⟨#[108, 111, 103, 46]⟩ w

theorem has_chk (s : ByteArray) (w : World) {b : Bool} (h : hasPrefix s.data.toList chk = b) : Calls Tryd.prog 11 #[.string s, .string ⟨#[99, 104, 101, 99, 107, 112, 111, 105, 110, 116, 46]⟩] w fun e w' => e = .returned (.bool b) ∧ w' = w := by
  rw [← h]
  exact zzHas s ⟨#[99, 104, 101, 99, 107, 112, 111, 105, 110, 116, 46]⟩ w

/-- 'zzIsCanonName'. -/
theorem canon_any (s : ByteArray) (w : World) : Calls Tryd.prog 7 #[.string s] w fun e w' => (∃ b : Bool, e = .returned (.bool b) ∧ (b = true ↔ Canon s.data.toList)) ∧ w' = w := by
  cases h1 : hasPrefix s.data.toList seg
  · cases h2 : hasPrefix s.data.toList chk
    · have HC : Hid (¬ Canon s.data.toList) := canon_none h1 h2
      have c1 := has_seg s w h1
      have c2 := has_chk s w h2
      clear h1 h2
      go_enter Tryd.func7, Tryd.ntmps7
      go_wp2_with fail
      refine c1.mono ?_
      rintro e w' ⟨rfl, rfl⟩
      go_wp2_with fail
      refine c2.mono ?_
      rintro e w' ⟨rfl, rfl⟩
      go_wp2
      go_ret
      refine ⟨⟨false, rfl, ?_⟩, rfl⟩
      constructor
      · intro h; cases h
      · intro h; exact absurd h HC.out
    · have HC := (canon_chk h2)
      have c1 := has_seg s w h1
      have c2 := has_chk s w h2
      have hl := has_len h2
      have hl2 : 11 ≤ s.size := by rw [Lib.size_eq]; exact hl
      have c3 := dec_any (s.extract 11 s.size) w
      rw [extract_data, ← HC] at c3
      clear h1 h2 hl HC
      go_enter Tryd.func7, Tryd.ntmps7
      go_wp2_with fail
      refine c1.mono ?_
      rintro e w' ⟨rfl, rfl⟩
      go_wp2_with fail
      refine c2.mono ?_
      rintro e w' ⟨rfl, rfl⟩
      go_wp2_with fail
      refine c3.mono ?_
      rintro e w' ⟨⟨b, rfl, hb⟩, rfl⟩
      have HB : Hid (b = true ↔ Canon s.data.toList) := hb
      clear hb
      go_wp2
      go_ret
      exact ⟨⟨b, rfl, HB.out⟩, rfl⟩
  · have HC := (canon_seg h1)
    have c1 := has_seg s w h1
    have hl := has_len h1
    have hl2 : 4 ≤ s.size := by rw [Lib.size_eq]; exact hl
    have c3 := dec_any (s.extract 4 s.size) w
    rw [extract_data, ← HC] at c3
    clear h1 hl HC
    go_enter Tryd.func7, Tryd.ntmps7
    go_wp2_with fail
    refine c1.mono ?_
    rintro e w' ⟨rfl, rfl⟩
    go_wp2_with fail
    refine c3.mono ?_
    rintro e w' ⟨⟨b, rfl, hb⟩, rfl⟩
    have HB : Hid (b = true ↔ Canon s.data.toList) := hb
    clear hb
    go_wp2
    go_ret
    exact ⟨⟨b, rfl, HB.out⟩, rfl⟩
end Go.Proofs.Qxb6003817aDoor
