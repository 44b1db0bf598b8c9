/-
  The law: 'PropParseNameInvertsNamesListStoreSorts'.
-/
import Derived.Test.Qxb6003817aDoorParse
namespace Go.Proofs.Qxb6003817aDoor
open Go.RowKit Go.Lib

theorem parse_any (s : ByteArray) (hs : s.size ≤ 65536) (w : World) (h : Glob w) : Calls Tryd.prog 4 #[.string s] w fun e w' => Res s.data.toList e ∧ Below w.heap.size w w' := by
  have c := parse8 s hs w h
  clear h hs
  go_enter Tryd.func4, Tryd.ntmps4
  go_wp2_with fail
  refine c.mono ?_
  rintro e w1 ⟨(⟨u, hu, rfl, hl⟩ | ⟨u, hu, rfl, hl⟩ | ⟨p, u, rfl, hn⟩), hb⟩
  · have HR : Hid (Res s.data.toList (.returned (.tuple #[.string ⟨#[108, 111, 103, 46]⟩, .int .u64 u, .bool true]))) := .inl ⟨u, hu, rfl, hl⟩
    clear hu hl c
    go_wp2
    go_ret3
    exact ⟨HR.out, hb⟩
  · have HR : Hid (Res s.data.toList (.returned (.tuple #[.string ⟨#[99, 104, 101, 99, 107, 112, 111, 105, 110, 116, 46]⟩, .int .u64 u, .bool true]))) := .inr (.inl ⟨u, hu, rfl, hl⟩)
    clear hu hl c
    go_wp2
    go_ret3
    exact ⟨HR.out, hb⟩
  · have HR : Hid (Res s.data.toList (.returned (.tuple #[.string p, .int .u64 u, .bool false]))) := .inr (.inr ⟨p, u, rfl, hn⟩)
    clear hn c
    go_wp2
    go_ret3
    exact ⟨HR.out, hb⟩

theorem dec_inj {a b : Nat} (h : decDigits a = decDigits b) : a = b := by
  have := congrArg (valF 0) h
  rw [(dec_all a).2.1, (dec_all b).2.1] at this
  exact this

theorem isDec_dec {n : Nat} (hn : n < 18446744073709551616) : IsDec (decDigits n) := (dec_iff _).2 ⟨n, parse_dec hn, rfl⟩

theorem size_list (l : List UInt8) : (⟨l.toArray⟩ : ByteArray).size = l.length := by rw [Lib.size_eq]

theorem parse_seg (n : Nat) (hn : n < 18446744073709551616) (w : World) (h : Glob w) :
    Calls Tryd.prog 4 #[.string ⟨(seg ++ decDigits n).toArray⟩] w fun e w' => e = .returned (.tuple #[.string ⟨#[108, 111, 103, 46]⟩, .int .u64 n, .bool true]) ∧ Below w.heap.size w w' := by
  refine (parse_any ⟨(seg ++ decDigits n).toArray⟩ (by rw [size_list, List.length_append]; have := dec_len hn; have : seg.length = 4 := rfl; omega) w h).mono ?_
  rintro e w' ⟨(⟨u, _, rfl, hl⟩ | ⟨u, _, rfl, hl⟩ | ⟨p, u, rfl, hc⟩), hb⟩
  · rw [dec_inj (List.append_cancel_left hl)]
    exact ⟨rfl, hb⟩
  · exact absurd hl (seg_not_chk _ _)
  · exact absurd (.inl ⟨_, rfl, isDec_dec hn⟩) hc

theorem parse_chk (n : Nat) (hn : n < 18446744073709551616) (w : World) (h : Glob w) :
    Calls Tryd.prog 4 #[.string ⟨(chk ++ decDigits n).toArray⟩] w fun e w' => e = .returned (.tuple #[.string ⟨#[99, 104, 101, 99, 107, 112, 111, 105, 110, 116, 46]⟩, .int .u64 n, .bool true]) ∧ Below w.heap.size w w' := by
  refine (parse_any ⟨(chk ++ decDigits n).toArray⟩ (by rw [size_list, List.length_append]; have := dec_len hn; have : chk.length = 11 := rfl; omega) w h).mono ?_
  rintro e w' ⟨(⟨u, _, rfl, hl⟩ | ⟨u, _, rfl, hl⟩ | ⟨p, u, rfl, hc⟩), hb⟩
  · exact absurd hl.symm (seg_not_chk _ _)
  · rw [dec_inj (List.append_cancel_left hl)]
    exact ⟨rfl, hb⟩
  · exact absurd (.inr ⟨_, rfl, isDec_dec hn⟩) hc

theorem law_long (n : Int) (s : ByteArray) (hs : 65536 < s.size) (w : World) : Calls Tryd.prog 3 #[.int .u64 n, .string s] w fun e w' => e = .returned (.bool true) ∧ Below w.heap.size w w' := by
  have hI : (65536 : Int) < (s.size : Int) := by omega
  clear hs
  go_enter Tryd.func3, Tryd.ntmps3
  go_wp2
  go_ret
  exact ⟨rfl, Below.refl _ _⟩

theorem eq_of_list {s : ByteArray} {l : List UInt8} (h : s.data.toList = l) : (⟨l.toArray⟩ : ByteArray) = s := by
  obtain ⟨⟨d⟩⟩ := s
  subst h
  rfl

theorem canon_yes (s : ByteArray) (w : World) (h : Canon s.data.toList) : Calls Tryd.prog 7 #[.string s] w fun e w' => e = .returned (.bool true) ∧ w' = w := by
  refine (canon_any s w).mono ?_
  rintro e w' ⟨⟨b, rfl, hb⟩, rfl⟩
  rw [hb.2 h]
  exact ⟨rfl, rfl⟩

theorem canon_no (s : ByteArray) (w : World) (h : ¬ Canon s.data.toList) : Calls Tryd.prog 7 #[.string s] w fun e w' => e = .returned (.bool false) ∧ w' = w := by
  refine (canon_any s w).mono ?_
  rintro e w' ⟨⟨b, rfl, hb⟩, rfl⟩
  cases b
  · exact ⟨rfl, rfl⟩
  · exact absurd (hb.1 rfl) h

set_option maxRecDepth 20000 in
set_option maxHeartbeats 1600000 in
theorem law_main (n : Nat) (hn : n < 18446744073709551616) (s : ByteArray) (hs : s.size ≤ 65536) (w : World) (h : Glob w) : Calls Tryd.prog 3 #[.int .u64 n, .string s] w fun e w' => e = .returned (.bool true) ∧ Below w.heap.size w w' := by
  have hI : ¬ (65536 : Int) < (s.size : Int) := by omega
  have HG : Hid (Glob w) := h
  have HS : Hid (s.size ≤ 65536) := hs
  have HN : Hid (n < 18446744073709551616) := hn
  clear h hs hn
  go_enter Tryd.func3, Tryd.ntmps3
  go_wp2_with fail
  refine (segName n HN.out w HG.out).mono ?_
  rintro e w1 ⟨rfl, hb⟩
  have HB1 : Hid (Below w.heap.size w w1) := hb
  clear hb
  go_wp2_with fail
  refine (parse_seg n HN.out w1 (HG.out.kept HB1.out)).mono ?_
  rintro e w2 ⟨rfl, hb⟩
  have HB2 : Hid (Below w.heap.size w w2) := HB1.out.trans (hb.mono HB1.out.size)
  clear hb HB1
  go_wp2_with fail
  refine (chkName n HN.out w2 (HG.out.kept HB2.out)).mono ?_
  rintro e w3 ⟨rfl, hb⟩
  have HB3 : Hid (Below w.heap.size w w3) := HB2.out.trans (hb.mono HB2.out.size)
  clear hb HB2
  go_wp2_with fail
  refine (parse_chk n HN.out w3 (HG.out.kept HB3.out)).mono ?_
  rintro e w4 ⟨rfl, hb⟩
  have HB4 : Hid (Below w.heap.size w w4) := HB3.out.trans (hb.mono HB3.out.size)
  clear hb HB3
  go_wp2_with fail
  refine (parse_any s HS.out w4 (HG.out.kept HB4.out)).mono ?_
  rintro e w5 ⟨(⟨u, hu, rfl, hl⟩ | ⟨u, hu, rfl, hl⟩ | ⟨p, u, rfl, hc⟩), hb⟩
  · have HB5 : Hid (Below w.heap.size w w5) := HB4.out.trans (hb.mono HB4.out.size)
    have HC : Hid (Canon s.data.toList) := .inl ⟨_, hl, isDec_dec hu⟩
    have c1 := segName u hu w5 (HG.out.kept HB5.out)
    rw [eq_of_list hl] at c1
    clear hb HB4 hu hl
    go_wp2_with fail
    refine c1.mono ?_
    rintro e w6 ⟨rfl, hb⟩
    have HB6 : Hid (Below w.heap.size w w6) := HB5.out.trans (hb.mono HB5.out.size)
    clear hb HB5 c1
    go_wp2_with fail
    refine (canon_yes s w6 HC.out).mono ?_
    rintro e w7 ⟨rfl, rfl⟩
    go_wp2
    go_ret
    exact ⟨rfl, HB6.out⟩
  · have HB5 : Hid (Below w.heap.size w w5) := HB4.out.trans (hb.mono HB4.out.size)
    have HC : Hid (Canon s.data.toList) := .inr ⟨_, hl, isDec_dec hu⟩
    have c1 := chkName u hu w5 (HG.out.kept HB5.out)
    rw [eq_of_list hl] at c1
    clear hb HB4 hu hl
    go_wp2_with fail
    refine c1.mono ?_
    rintro e w6 ⟨rfl, hb⟩
    have HB6 : Hid (Below w.heap.size w w6) := HB5.out.trans (hb.mono HB5.out.size)
    clear hb HB5 c1
    go_wp2_with fail
    refine (canon_yes s w6 HC.out).mono ?_
    rintro e w7 ⟨rfl, rfl⟩
    go_wp2
    go_ret
    exact ⟨rfl, HB6.out⟩
  · have HB5 : Hid (Below w.heap.size w w5) := HB4.out.trans (hb.mono HB4.out.size)
    have HC : Hid (¬ Canon s.data.toList) := hc
    clear hb HB4 hc
    go_wp2_with fail
    refine (canon_no s w5 HC.out).mono ?_
    rintro e w7 ⟨rfl, rfl⟩
    go_wp2
    go_ret
    exact ⟨rfl, HB5.out⟩
end Go.Proofs.Qxb6003817aDoor
