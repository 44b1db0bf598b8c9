/-
  'parseName'.
-/
import Derived.Test.Qxb6003817aDoorCanon
namespace Go.Proofs.Qxb6003817aDoor
open Go.RowKit Go.Lib

/-- How 'parseName' ends. -/
def Res (l : List UInt8) (e : Ending) : Prop :=
  (∃ u : Nat, u < 18446744073709551616 ∧ e = .returned (.tuple #[.string ⟨#[108, 111, 103, 46]⟩, .int .u64 u, .bool true]) ∧ l = seg ++ decDigits u) ∨
  (∃ u : Nat, u < 18446744073709551616 ∧ e = .returned (.tuple #[.string ⟨#[99, 104, 101, 99, 107, 112, 111, 105, 110, 116, 46]⟩, .int .u64 u, .bool true]) ∧ l = chk ++ decDigits u) ∨
  ∃ (p : ByteArray) (u : Nat), e = .returned (.tuple #[.string p, .int .u64 u, .bool false]) ∧ ¬ Canon l

theorem res_hit_seg {l : List UInt8} {u : Nat} (h : hasPrefix l seg = true) (hu : u < 18446744073709551616) (hd : decDigits u = l.drop 4) : Res l (.returned (.tuple #[.string ⟨#[108, 111, 103, 46]⟩, .int .u64 u, .bool true])) :=
  .inl ⟨u, hu, rfl, by rw [hd]; exact (has_iff l seg).1 h⟩

theorem res_hit_chk {l : List UInt8} {u : Nat} (h : hasPrefix l chk = true) (hu : u < 18446744073709551616) (hd : decDigits u = l.drop 11) : Res l (.returned (.tuple #[.string ⟨#[99, 104, 101, 99, 107, 112, 111, 105, 110, 116, 46]⟩, .int .u64 u, .bool true])) :=
  .inr (.inl ⟨u, hu, rfl, by rw [hd]; exact (has_iff l chk).1 h⟩)

theorem res_miss {l : List UInt8} {p : ByteArray} {u : Nat} (h : ¬ Canon l) : Res l (.returned (.tuple #[.string p, .int .u64 u, .bool false])) := .inr (.inr ⟨p, u, rfl, h⟩)

theorem not_canon_seg {l : List UInt8} (h : hasPrefix l seg = true) (hn : ∀ v, parseUintB 64 (l.drop 4) = .ok v → decDigits v ≠ l.drop 4) : ¬ Canon l := by
  rw [canon_seg h, dec_iff]
  rintro ⟨u, h1, h2⟩
  exact hn u h1 h2

theorem not_canon_chk {l : List UInt8} (h : hasPrefix l chk = true) (hn : ∀ v, parseUintB 64 (l.drop 11) = .ok v → decDigits v ≠ l.drop 11) : ¬ Canon l := by
  rw [canon_chk h, dec_iff]
  rintro ⟨u, h1, h2⟩
  exact hn u h1 h2

theorem cut_hit_seg (s : ByteArray) (w : World) (h : hasPrefix s.data.toList seg = true) : Calls Tryd.prog 13 #[.string s, .string ⟨#[108, 111, 103, 46]⟩] w fun e w' => e = .returned (.tuple #[.string ⟨(s.data.toList.drop 4).toArray⟩, .bool true]) ∧ w' = w := by
  have c := Tryd.strings_CutPrefix s ⟨#[108, 111, 103, 46]⟩ w
  have e : (⟨#[108, 111, 103, 46]⟩ : ByteArray).data.toList = seg := rfl
  rw [e, h, trimPrefix, if_pos h] at c
  exact c

theorem cut_hit_chk (s : ByteArray) (w : World) (h : hasPrefix s.data.toList chk = true) : Calls Tryd.prog 13 #[.string s, .string ⟨#[99, 104, 101, 99, 107, 112, 111, 105, 110, 116, 46]⟩] w fun e w' => e = .returned (.tuple #[.string ⟨(s.data.toList.drop 11).toArray⟩, .bool true]) ∧ w' = w := by
  have c := Tryd.strings_CutPrefix s ⟨#[99, 104, 101, 99, 107, 112, 111, 105, 110, 116, 46]⟩ w
  have e : (⟨#[99, 104, 101, 99, 107, 112, 111, 105, 110, 116, 46]⟩ : ByteArray).data.toList = chk := rfl
  rw [e, h, trimPrefix, if_pos h] at c
  exact c

theorem cut_miss (s p : ByteArray) (w : World) (h : hasPrefix s.data.toList p.data.toList = false) : Calls Tryd.prog 13 #[.string s, .string p] w fun e w' => (∃ t, e = .returned (.tuple #[.string t, .bool false])) ∧ w' = w := by
  have c := Tryd.strings_CutPrefix s p w
  rw [h] at c
  exact c.mono fun e w' ⟨h1, h2⟩ => ⟨⟨_, h1⟩, h2⟩

set_option maxRecDepth 20000 in
set_option maxHeartbeats 1600000 in
theorem parse8 (s : ByteArray) (hs : s.size ≤ 65536) (w : World) (h : Glob w) : Calls Tryd.prog 8 #[.string s] w fun e w' => Res s.data.toList e ∧ Below w.heap.size w w' := by
  have HG : Hid (Glob w) := h
  have HS : Hid (s.size ≤ 65536) := hs
  clear h hs
  go_enter Tryd.func8, Tryd.ntmps8
  go_wp2
  obtain ⟨W, hW⟩ : ∃ W, W = w.alloc (.cells #[.string ⟨#[108, 111, 103, 46]⟩, .string ⟨#[99, 104, 101, 99, 107, 112, 111, 105, 110, 116, 46]⟩] 9) := ⟨_, rfl⟩
  have hc0 : W.cell? ⟨w.heap.size, 0, none⟩ = some (.string ⟨#[108, 111, 103, 46]⟩) := by rw [hW, World.cell?_alloc_new]; rfl
  have hc1 : W.cell? ⟨w.heap.size, 1, none⟩ = some (.string ⟨#[99, 104, 101, 99, 107, 112, 111, 105, 110, 116, 46]⟩) := by rw [hW, World.cell?_alloc_new]; rfl
  have HBW : Hid (Below w.heap.size w W) := by rw [hW]; exact Below.alloc (Below.refl _ _) (Nat.le_refl _) _
  have HGW : Hid (Glob W) := HG.out.kept HBW.out
  rw [← hW]
  clear hW HG
  go_loopw [13] (fun v wr => wr = W ∧ (v = .int .i64 0 ∨ (v = .int .i64 1 ∧ Hid (hasPrefix s.data.toList seg = false)) ∨ (v = .int .i64 2 ∧ Hid (hasPrefix s.data.toList seg = false ∧ hasPrefix s.data.toList chk = false)))) (fun v _ => 2 - (RowKit.intOf v).toNat)
  case atStart => exact ⟨rfl, .inl rfl⟩
  case round =>
    obtain ⟨rfl, (rfl | ⟨rfl, HM⟩ | ⟨rfl, HM⟩)⟩ := hrel
    · by_cases hp : hasPrefix s.data.toList seg = true
      · skip
        obtain ⟨D, hD⟩ : ∃ D, D = s.data.toList.drop 4 := ⟨_, rfl⟩
        have HD : Hid (D = s.data.toList.drop 4) := hD
        have c1 := cut_hit_seg s wr hp
        rw [← hD] at c1
        clear hD
        have c2 := parseUint_any ⟨D.toArray⟩ (by rw [Lib.size_eq]; show D.length ≤ _; rw [HD.out, List.length_drop, ← Lib.size_eq]; have := HS.out; omega) wr HGW.out.2.1 HGW.out.2.2
        have HP : Hid (hasPrefix s.data.toList seg = true) := hp
        clear hp
        go_wp2_with fail
        refine c1.mono ?_
        rintro e w1 ⟨rfl, rfl⟩
        go_wp2_with fail
        refine c2.mono ?_
        rintro e w2 ⟨hb2, u, hu, (⟨rfl, hok⟩ | ⟨⟨N, rfl⟩, hno⟩)⟩
        · have HU : Hid (u < 18446744073709551616) := hu
          have HO : Hid (parseUintB 64 D = .ok u) := hok
          have c3 := format_any u hu w2 (HGW.out.kept hb2)
          have HB2 : Hid (Below w.heap.size w w2) := HBW.out.trans (hb2.mono HBW.out.size)
          clear hb2 hu hok c1 c2
          obtain ⟨X, hX⟩ : ∃ X, X = decDigits u := ⟨_, rfl⟩
          rw [← hX] at c3
          have HX : Hid (X = decDigits u) := hX
          clear hX
          by_cases hXD : X = D
          · subst hXD
            go_wp2_with fail
            refine c3.mono ?_
            rintro e w3 ⟨rfl, hb3⟩
            have HB3 : Hid (Below w.heap.size w w3) := HB2.out.trans (hb3.mono HB2.out.size)
            clear hb3 c3
            go_wp2
            go_ret3
            exact ⟨res_hit_seg HP.out HU.out (HX.out.symm.trans HD.out), HB3.out⟩
          · have hXB : (X == D) = false := by simpa using hXD
            go_wp2_with fail
            refine c3.mono ?_
            rintro e w3 ⟨rfl, hb3⟩
            have HB3 : Hid (Below w.heap.size w w3) := HB2.out.trans (hb3.mono HB2.out.size)
            clear hb3 c3
            go_wp2
            go_ret3
            exact ⟨res_miss (not_canon_seg HP.out (fun v hv => by
              rw [← HD.out] at hv ⊢
              have e1 := HO.out.symm.trans hv
              injection e1 with e1
              rw [← e1, ← HX.out]
              exact hXD)), HB3.out⟩
        · have HO : Hid (∀ v, parseUintB 64 D ≠ .ok v) := hno
          have HB2 : Hid (Below w.heap.size w w2) := HBW.out.trans (hb2.mono HBW.out.size)
          clear hb2 hu hno c1 c2
          go_wp2
          go_ret3
          exact ⟨res_miss (not_canon_seg HP.out (fun v hv => absurd (by rw [HD.out]; exact hv) (HO.out v))), HB2.out⟩
      · have hm : hasPrefix s.data.toList seg = false := by simpa using hp
        have c1 := cut_miss s ⟨#[108, 111, 103, 46]⟩ wr hm
        have HM : Hid (hasPrefix s.data.toList seg = false) := hm
        clear hp hm
        go_wp2_with fail
        refine c1.mono ?_
        rintro e w1 ⟨⟨t, rfl⟩, rfl⟩
        go_wp2
        go_roundw
        case rel => exact ⟨by first | rfl | trivial, .inr (.inl ⟨by go_num, HM⟩)⟩
        case measure => simp [RowKit.intOf]
    · by_cases hp : hasPrefix s.data.toList chk = true
      · skip
        obtain ⟨D, hD⟩ : ∃ D, D = s.data.toList.drop 11 := ⟨_, rfl⟩
        have HD : Hid (D = s.data.toList.drop 11) := hD
        have c1 := cut_hit_chk s wr hp
        rw [← hD] at c1
        clear hD
        have c2 := parseUint_any ⟨D.toArray⟩ (by rw [Lib.size_eq]; show D.length ≤ _; rw [HD.out, List.length_drop, ← Lib.size_eq]; have := HS.out; omega) wr HGW.out.2.1 HGW.out.2.2
        have HP : Hid (hasPrefix s.data.toList chk = true) := hp
        clear hp
        go_wp2_with fail
        refine c1.mono ?_
        rintro e w1 ⟨rfl, rfl⟩
        go_wp2_with fail
        refine c2.mono ?_
        rintro e w2 ⟨hb2, u, hu, (⟨rfl, hok⟩ | ⟨⟨N, rfl⟩, hno⟩)⟩
        · have HU : Hid (u < 18446744073709551616) := hu
          have HO : Hid (parseUintB 64 D = .ok u) := hok
          have c3 := format_any u hu w2 (HGW.out.kept hb2)
          have HB2 : Hid (Below w.heap.size w w2) := HBW.out.trans (hb2.mono HBW.out.size)
          clear hb2 hu hok c1 c2
          obtain ⟨X, hX⟩ : ∃ X, X = decDigits u := ⟨_, rfl⟩
          rw [← hX] at c3
          have HX : Hid (X = decDigits u) := hX
          clear hX
          by_cases hXD : X = D
          · subst hXD
            go_wp2_with fail
            refine c3.mono ?_
            rintro e w3 ⟨rfl, hb3⟩
            have HB3 : Hid (Below w.heap.size w w3) := HB2.out.trans (hb3.mono HB2.out.size)
            clear hb3 c3
            go_wp2
            go_ret3
            exact ⟨res_hit_chk HP.out HU.out (HX.out.symm.trans HD.out), HB3.out⟩
          · have hXB : (X == D) = false := by simpa using hXD
            go_wp2_with fail
            refine c3.mono ?_
            rintro e w3 ⟨rfl, hb3⟩
            have HB3 : Hid (Below w.heap.size w w3) := HB2.out.trans (hb3.mono HB2.out.size)
            clear hb3 c3
            go_wp2
            go_ret3
            exact ⟨res_miss (not_canon_chk HP.out (fun v hv => by
              rw [← HD.out] at hv ⊢
              have e1 := HO.out.symm.trans hv
              injection e1 with e1
              rw [← e1, ← HX.out]
              exact hXD)), HB3.out⟩
        · have HO : Hid (∀ v, parseUintB 64 D ≠ .ok v) := hno
          have HB2 : Hid (Below w.heap.size w w2) := HBW.out.trans (hb2.mono HBW.out.size)
          clear hb2 hu hno c1 c2
          go_wp2
          go_ret3
          exact ⟨res_miss (not_canon_chk HP.out (fun v hv => absurd (by rw [HD.out]; exact hv) (HO.out v))), HB2.out⟩
      · have hm : hasPrefix s.data.toList chk = false := by simpa using hp
        have c1 := cut_miss s ⟨#[99, 104, 101, 99, 107, 112, 111, 105, 110, 116, 46]⟩ wr hm
        have HM2 : Hid (hasPrefix s.data.toList seg = false ∧ hasPrefix s.data.toList chk = false) := ⟨HM.out, hm⟩
        clear hp hm
        go_wp2_with fail
        refine c1.mono ?_
        rintro e w1 ⟨⟨t, rfl⟩, rfl⟩
        go_wp2
        go_roundw
        case rel => exact ⟨by first | rfl | trivial, .inr (.inr ⟨by go_num, HM2⟩)⟩
        case measure => simp [RowKit.intOf]
    · go_wp2
      go_ret3
      exact ⟨res_miss (p := ⟨#[]⟩) (u := 0) (canon_none HM.out.1 HM.out.2), HBW.out⟩
end Go.Proofs.Qxb6003817aDoor
