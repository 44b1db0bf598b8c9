/-
  'FnAppendHexSplitsAtAnyPoint': the walk.
-/
import Derived.Test.Qxb6003731aDec
namespace Go.Proofs.Qxb6003731a
open Go.RowKit

theorem zz11_any (ao bo co : Option Addr) (n m p ca cb cc : Nat) (w : World) (hn : n + m + p ≤ 1048576) :
    Calls Try.prog 11 #[.slice ao n ca, .slice bo m cb, .slice co p cc] w fun e w' => e = .returned (.bool true) ∧ w' = w := by
  go_enter Try.func11, Try.ntmps11
  go_wp2
  go_ret
  exact ⟨rfl, rfl⟩

theorem zz11_not (ao bo co : Option Addr) (n m p ca cb cc : Nat) (w : World) (h1 : n ≤ maxLen) (h2 : m ≤ maxLen) (h3 : p ≤ maxLen) (hn : 1048576 < n + m + p) :
    Calls Try.prog 11 #[.slice ao n ca, .slice bo m cb, .slice co p cc] w fun e w' => e = .returned (.bool false) ∧ w' = w := by
  unfold maxLen at h1 h2 h3
  by_cases c1 : 1048576 < n
  · go_enter Try.func11, Try.ntmps11
    go_wp2
    go_ret
    exact ⟨rfl, rfl⟩
  · by_cases c2 : 1048576 < m
    · go_enter Try.func11, Try.ntmps11
      go_wp2
      go_ret
      exact ⟨rfl, rfl⟩
    · by_cases c3 : 1048576 < n + m
      · go_enter Try.func11, Try.ntmps11
        go_wp2
        go_ret
        exact ⟨rfl, rfl⟩
      · by_cases c4 : 1048576 < p
        · go_enter Try.func11, Try.ntmps11
          go_wp2
          go_ret
          exact ⟨rfl, rfl⟩
        · go_enter Try.func11, Try.ntmps11
          go_wp2
          go_ret
          exact ⟨rfl, rfl⟩

theorem spl_huge (ao bo co : Option Addr) (n m p ca cb cc : Nat) (w : World) (h1 : n ≤ maxLen) (h2 : m ≤ maxLen) (h3 : p ≤ maxLen) (hn : 1048576 < n + m + p) :
    Calls Try.prog 4 #[.slice ao n ca, .slice bo m cb, .slice co p cc] w fun e w' => e = .returned (.bool true) ∧ Below w.heap.size w w' := by
  go_enter Try.func4, Try.ntmps4
  go_wp2_with (go_at_call 11; refine (zz11_not ao bo co n m p ca cb cc w h1 h2 h3 hn).mono ?_; rintro e w' ⟨rfl, rfl⟩)
  go_ret
  exact ⟨rfl, Below.refl _ _⟩

theorem hexl_append (a b : List Nat) : hexl (a ++ b) = hexl a ++ hexl b := by simp [hexl]

/-- The row of v lies at or behind B and before T. -/
def Lies (v : Value) (B T : Nat) : Prop := ∀ k, v.ownBlock = some k → B ≤ k ∧ k < T

/-- A row behind a call that turns nothing below. -/
abbrev Row (w : World) (v : Value) (n : Nat) (l : List Nat) : Prop := w.ownsRow 0 5 1 v n (bv l)

theorem row_of {w : World} {B : Nat} {v : Value} {n : Nat} {l : List Nat} (h : w.ownsRow B 5 1 v n (bv l)) : Row w v n l ∧ Lies v B w.heap.size := by
  refine ⟨⟨h.1, ?_⟩, h.lt⟩
  rcases h.2 with h2 | ⟨g, cap, cur, h1, _, h3⟩
  · exact .inl h2
  · exact .inr ⟨g, cap, cur, h1, Nat.zero_le _, h3⟩

theorem row_below {w w' : World} {v : Value} {n : Nat} {l : List Nat} (h : Row w v n l) (hb : Below w.heap.size w w') : Row w' v n l := owns_below h hb (Nat.le_refl _)

theorem row_grown {w w' : World} {row : Option Nat} {v : Value} {n : Nat} {l : List Nat} (h : Row w v n l) (hg : w.grownBy w' row) (hne : ∀ k, v.ownBlock = some k → row ≠ some k) : Row w' v n l := by
  refine h.kept hg ?_
  cases hv : v.ownBlock with
  | none => exact .inl rfl
  | some k => exact .inr (fun e => hne k hv e.symm)

/-- A row is read as bytes. -/
theorem row_reads {w : World} {v : Value} {n : Nat} {l : List Nat} (HN : Hid (n = l.length)) (hl : ∀ x ∈ l, x < 256) (h : Row w v n l) :
    ∃ ao cap, v = .slice ao n cap ∧ Bytes w ao l ∧ (∀ a, ao = some a → v.ownBlock = some a.block) := by
  obtain ⟨ao, cap, hv, hb, _⟩ := owns_bytes2 HN hl h
  refine ⟨ao, cap, hv, hb, fun a ha => ?_⟩
  subst hv
  subst ha
  rfl


set_option maxHeartbeats 1600000 in
theorem spl_main (ao bo co : Option Addr) (n m p ca cb cc : Nat) (lb lx ly : List Nat) (HN : Hid (n = lb.length)) (HM : Hid (m = lx.length)) (HP : Hid (p = ly.length)) (w : World) (hnm : n + m + p ≤ 1048576)
    (ha : Bytes w ao lb) (hb : Bytes w bo lx) (hc : Bytes w co ly) :
    Calls Try.prog 4 #[.slice ao n ca, .slice bo m cb, .slice co p cc] w fun e w' => e = .returned (.bool true) ∧ Below w.heap.size w w' := by
  have HLb : Hid (∀ x ∈ lb, x < 256) := ha.lt
  have HLx : Hid (∀ x ∈ lx, x < 256) := hb.lt
  have HLy : Hid (∀ x ∈ ly, x < 256) := hc.lt
  have HLxy : Hid (∀ x ∈ lx ++ ly, x < 256) := fun x hx => by rcases List.mem_append.1 hx with h | h; exact HLx.out x h; exact HLy.out x h
  have HMP : Hid (m + p = (lx ++ ly).length) := by show _ = _; rw [List.length_append, HM.out, HP.out]
  go_enter Try.func4, Try.ntmps4
  go_wp2_with fail
  refine (zz11_any ao bo co n m p ca cb cc w hnm).mono ?_
  rintro e w0 ⟨rfl, rfl⟩
  go_wp2_with fail
  refine (copy8_any ao ca n lb HN _ (by omega) ha).mono ?_
  rintro e w1 ⟨b1, rfl, o1, F1⟩
  go_wp2_with fail
  refine (copy8_any ao ca n lb HN _ (by omega) (ha.below F1 (Nat.le_refl _))).mono ?_
  rintro e w2 ⟨b2, rfl, o2, N2⟩
  have s1 := F1.size
  have F2 := F1.trans (N2.mono s1)
  go_wp2_with fail
  refine (copy8_any ao ca n lb HN _ (by omega) (ha.below F2 (Nat.le_refl _))).mono ?_
  rintro e w3 ⟨b3, rfl, o3, N3⟩
  have s2 := N2.size
  have F3 := F2.trans (N3.mono (by omega))
  go_wp2_with fail
  refine (copy8_any bo cb m lx HM _ (by omega) (hb.below F3 (Nat.le_refl _))).mono ?_
  rintro e w4 ⟨x1, rfl, o4, N4⟩
  have s3 := N3.size
  have F4 := F3.trans (N4.mono (by omega))
  go_wp2_with fail
  refine (copy8_any co cc p ly HP _ (by omega) (hc.below F4 (Nat.le_refl _))).mono ?_
  rintro e w5 ⟨y1, rfl, o5, N5⟩
  have s4 := N4.size
  have F5 := F4.trans (N5.mono (by omega))
  go_wp2_with fail
  refine (concat_any bo co cb cc m p lx ly HM HP _ (by omega) (by omega) (hb.below F5 (Nat.le_refl _)) (hc.below F5 (Nat.le_refl _))).mono ?_
  rintro e w6 ⟨h1, rfl, o6, N6⟩
  have s5 := N5.size
  have F6 := F5.trans (N6.mono (by omega))
  go_wp2_with fail
  refine (concat_any bo co cb cc m p lx ly HM HP _ (by omega) (by omega) (hb.below F6 (Nat.le_refl _)) (hc.below F6 (Nat.le_refl _))).mono ?_
  rintro e w7 ⟨h2, rfl, o7, N7⟩
  have s6 := N6.size
  have s7 := N7.size
  have F7 := F6.trans (N7.mono (by omega))
  clear ha hb hc F1 F2 F3 F4 F5 F6
  have B67 : Below w6.heap.size w6 w7 := N7
  have B57 : Below w5.heap.size w5 w7 := N6.trans (B67.mono (by omega))
  have B47 : Below w4.heap.size w4 w7 := N5.trans (B57.mono (by omega))
  have B37 : Below w3.heap.size w3 w7 := N4.trans (B47.mono (by omega))
  have B27 : Below w2.heap.size w2 w7 := N3.trans (B37.mono (by omega))
  have B17 : Below w1.heap.size w1 w7 := N2.trans (B27.mono (by omega))
  clear N2 N3 N4 N5 N6 N7
  obtain ⟨r1, L1⟩ := row_of o1
  obtain ⟨r2, L2⟩ := row_of o2
  obtain ⟨r3, L3⟩ := row_of o3
  obtain ⟨r4, L4⟩ := row_of o4
  obtain ⟨r5, L5⟩ := row_of o5
  obtain ⟨r6, L6⟩ := row_of o6
  obtain ⟨r7, L7⟩ := row_of o7
  have r1 := row_below r1 B17
  have r2 := row_below r2 B27
  have r3 := row_below r3 B37
  have r4 := row_below r4 B47
  have r5 := row_below r5 B57
  have r6 := row_below r6 B67
  clear o1 o2 o3 o4 o5 o6 o7 B67 B57 B47 B37 B27 B17
  obtain ⟨ax, cx, hv4, hB4, hf4⟩ := row_reads HM HLx.out r4
  subst hv4
  go_wp2_with fail
  refine (zhex_any b1 n 0 m cx lb lx ax HM _ r1 (Nat.zero_le _) hB4 (fun a h1 h2 => by have := L1 _ h2; have := L4 _ (hf4 a h1); omega) (by omega) (by omega)).mono ?_
  rintro e w8 ⟨t1, rfl, q1, g8, at8⟩
  have r2 := row_grown r2 g8 (fun k h1 h2 => by have := L1 _ h2; have := L2 _ h1; omega)
  have r3 := row_grown r3 g8 (fun k h1 h2 => by have := L1 _ h2; have := L3 _ h1; omega)
  have r5 := row_grown r5 g8 (fun k h1 h2 => by have := L1 _ h2; have := L5 _ h1; omega)
  have r6 := row_grown r6 g8 (fun k h1 h2 => by have := L1 _ h2; have := L6 _ h1; omega)
  have r7 := row_grown r7 g8 (fun k h1 h2 => by have := L1 _ h2; have := L7 _ h1; omega)
  have F8 := F7.grown g8 (by omega) (fun k hk => by have := L1 _ hk; omega)
  have s8 := g8.size
  have LT : Hid (∀ k, t1.ownBlock = some k → ((w0.heap.size ≤ k ∧ k < w1.heap.size) ∨ w7.heap.size ≤ k) ∧ k < w8.heap.size) := by
    intro k hk
    refine ⟨?_, (q1.lt k hk).2⟩
    rcases at8 with h | ⟨g, h, hg⟩
    · exact .inl (L1 k (h ▸ hk))
    · rw [h] at hk; simp only [Option.some.injEq] at hk; exact .inr (by omega)
  clear g8 at8 hB4 hf4 F7 L4
  obtain ⟨ay, cy, hv5, hB5, hf5⟩ := row_reads HP HLy.out r5
  subst hv5
  go_wp2_with fail
  refine (zhex_any t1 (n + 3 * m) 0 p cy (lb ++ hexl lx) ly ay HP _ q1 (Nat.zero_le _) hB5 (fun a h1 h2 => by have := LT.out _ h2; have := L5 _ (hf5 a h1); omega) (by omega) (by omega)).mono ?_
  rintro e w9 ⟨t2, rfl, q2, g9, at9⟩
  have r2 := row_grown r2 g9 (fun k h1 h2 => by have := LT.out _ h2; have := L2 _ h1; omega)
  have r3 := row_grown r3 g9 (fun k h1 h2 => by have := LT.out _ h2; have := L3 _ h1; omega)
  have r6 := row_grown r6 g9 (fun k h1 h2 => by have := LT.out _ h2; have := L6 _ h1; omega)
  have r7 := row_grown r7 g9 (fun k h1 h2 => by have := LT.out _ h2; have := L7 _ h1; omega)
  have F9 := F8.grown g9 (by omega) (fun k hk => by have := LT.out _ hk; omega)
  have s9 := g9.size
  have LS : Hid (∀ k, t2.ownBlock = some k → ((w0.heap.size ≤ k ∧ k < w1.heap.size) ∨ w7.heap.size ≤ k) ∧ k < w9.heap.size) := by
    intro k hk
    refine ⟨?_, (q2.lt k hk).2⟩
    rcases at9 with h | ⟨g, h, hg⟩
    · exact (LT.out k (h ▸ hk)).1
    · rw [h] at hk; simp only [Option.some.injEq] at hk; exact .inr (by omega)
  clear g9 at9 hB5 hf5 F8 L5 q1 r5
  obtain ⟨ah, ch, hv6, hB6, hf6⟩ := row_reads HMP HLxy.out r6
  subst hv6
  go_wp2_with fail
  refine (zhex_any b2 n 0 (m + p) ch lb (lx ++ ly) ah HMP _ r2 (Nat.zero_le _) hB6 (fun a h1 h2 => by have := L2 _ h2; have := L6 _ (hf6 a h1); omega) (by omega) (by omega)).mono ?_
  rintro e w10 ⟨t3, rfl, q3, g10, at10⟩
  have q2 := row_grown q2 g10 (fun k h1 h2 => by have := L2 _ h2; have := LS.out _ h1; omega)
  have r3 := row_grown r3 g10 (fun k h1 h2 => by have := L2 _ h2; have := L3 _ h1; omega)
  have r7 := row_grown r7 g10 (fun k h1 h2 => by have := L2 _ h2; have := L7 _ h1; omega)
  have F10 := F9.grown g10 (by omega) (fun k hk => by have := L2 _ hk; omega)
  have s10 := g10.size
  clear g10 at10 hB6 hf6 F9 L6 r2 r6
  obtain ⟨ak, ck, hv7, hB7, hf7⟩ := row_reads HMP HLxy.out r7
  subst hv7
  go_wp2_with fail
  refine (zhex_any (.slice none 0 0) 0 0 (m + p) ck [] (lx ++ ly) ak HMP _ (World.ownsRow_nil _ _ _ _) (Nat.zero_le _) hB7 (fun a h1 h2 => by cases h2) (by omega) (by omega)).mono ?_
  rintro e w11 ⟨t4, rfl, q4, g11, at11⟩
  have q2 := row_grown q2 g11 (fun k h1 h2 => by cases h2)
  have q3 := row_grown q3 g11 (fun k h1 h2 => by cases h2)
  have r3 := row_grown r3 g11 (fun k h1 h2 => by cases h2)
  have F11 := F10.grown g11 (by omega) (fun k hk => by cases hk)
  have s11 := g11.size
  clear g11 at11 hB7 hf7 F10 L7 r7 L1 L2 L3 LT LS r1 r4
  have HE : Hid (lb ++ hexl lx ++ hexl ly = lb ++ hexl (lx ++ ly)) := by show _ = _; rw [hexl_append, List.append_assoc]
  have HLe : Hid (∀ x ∈ lb ++ hexl (lx ++ ly), x < 256) := fun x hx => by rcases List.mem_append.1 hx with h | h; exact HLb.out x h; exact hexl_lt _ HLxy.out x h
  have HLf : Hid (∀ x ∈ hexl (lx ++ ly), x < 256) := hexl_lt _ HLxy.out
  have HQ : Hid (n + 3 * (m + p) = (lb ++ hexl (lx ++ ly)).length) := by show _ = _; rw [List.length_append, hexl_len, ← HMP.out, HN.out]
  have HQ4 : Hid (0 + 3 * (m + p) = (hexl (lx ++ ly)).length) := by show _ = _; rw [hexl_len, ← HMP.out, Nat.zero_add]
  rw [HE.out, show n + 3 * m + 3 * p = n + 3 * (m + p) by omega] at q2
  rw [List.nil_append] at q4
  obtain ⟨a2, c2, hv2, hC2, _⟩ := row_reads HQ HLe.out q2
  obtain ⟨a3, c3, hv3, hC3, _⟩ := row_reads HQ HLe.out q3
  obtain ⟨a4, c4, hv4, hC4, _⟩ := row_reads HQ4 HLf.out q4
  obtain ⟨a5, c5, hv5, hC5, _⟩ := row_reads HN HLb.out r3
  subst hv2
  subst hv3
  subst hv4
  subst hv5
  clear q2 q3 q4 r3
  go_wp2_with fail
  refine (same_any a2 a3 c2 c3 (n + 3 * (m + p)) (lb ++ hexl (lx ++ ly)) HQ _ (by omega) hC2 hC3).mono ?_
  rintro e w12 ⟨rfl, q, hw⟩
  have D12 : Below w11.heap.size w11 w12 := by rw [hw]; exact below_drewN (Below.refl _ _) q
  clear hw
  have F12 := F11.trans (D12.mono (by omega))
  have hC3 := hC3.below D12 (Nat.le_refl _)
  have hC4 := hC4.below D12 (Nat.le_refl _)
  have hC5 := hC5.below D12 (Nat.le_refl _)
  have HQ5 : Hid (3 * (m + p) = (hexl (lx ++ ly)).length) := by show _ = _; rw [hexl_len, ← HMP.out]
  have s12 := D12.size
  clear D12 F11 hC2 HQ4
  go_wp2_with fail
  refine (concat_any a5 a4 c5 c4 n (3 * (m + p)) lb (hexl (lx ++ ly)) HN HQ5 _ (by omega) (by omega) hC5 hC4).mono ?_
  rintro e w13 ⟨t5, rfl, q5, N13⟩
  have F13 := F12.trans (N13.mono (by omega))
  have hC3 := hC3.below N13 (Nat.le_refl _)
  obtain ⟨a6, c6, hv6, hC6, _⟩ := row_reads HQ HLe.out (row_of q5).1
  subst hv6
  clear q5 N13 F12 hC5 hC4
  go_wp2_with fail
  refine (same_any a3 a6 c3 c6 (n + 3 * (m + p)) (lb ++ hexl (lx ++ ly)) HQ _ (by omega) hC3 hC6).mono ?_
  rintro e w14 ⟨rfl, q', hw⟩
  have F14 : Below w0.heap.size w0 w14 := by rw [hw]; exact below_drewN F13 q'
  clear hw
  go_wp2_with fail
  go_ret
  exact ⟨rfl, F14⟩

theorem spl_any (ao bo co : Option Addr) (n m p ca cb cc : Nat) (lb lx ly : List Nat) (hn : n = lb.length) (hm : m = lx.length) (hp : p = ly.length) (w : World) (h1 : n ≤ maxLen) (h2 : m ≤ maxLen) (h3 : p ≤ maxLen)
    (ha : Bytes w ao lb) (hb : Bytes w bo lx) (hc : Bytes w co ly) :
    Calls Try.prog 4 #[.slice ao n ca, .slice bo m cb, .slice co p cc] w fun e w' => e = .returned (.bool true) ∧ Below w.heap.size w w' := by
  by_cases h : 1048576 < n + m + p
  · exact spl_huge ao bo co n m p ca cb cc w h1 h2 h3 h
  · exact spl_main ao bo co n m p ca cb cc lb lx ly hn hm hp w (by omega) ha hb hc

end Go.Proofs.Qxb6003731a
