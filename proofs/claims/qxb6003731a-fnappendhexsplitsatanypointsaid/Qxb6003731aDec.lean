/-
  'FnAppendHexDecodesBack': the walk.
-/
import Derived.Test.Qxb6003731aHex2
namespace Go.Proofs.Qxb6003731a
open Go.RowKit

theorem owns_bytes2 {w : World} {base : Nat} {v : Value} {n : Nat} {l : List Nat} (HN : Hid (n = l.length)) (hl : ∀ x ∈ l, x < 256) (h : w.ownsRow base 5 1 v n (bv l)) :
    ∃ ao cap, v = .slice ao n cap ∧ Bytes w ao l ∧ (∀ a, ao = some a → base ≤ a.block ∧ a.block < w.heap.size) := by
  obtain ⟨ao, cap, hv, hb⟩ := owns_bytes HN.out hl h
  rw [← HN.out] at hv
  refine ⟨ao, cap, hv, hb, fun a ha => ?_⟩
  subst hv
  subst ha
  exact h.lt a.block rfl

theorem owns_below {w w' : World} {base B : Nat} {e : TypeId} {size : Nat} {v : Value} {n : Nat} {xs : List Value} (h : w.ownsRow base e size v n xs) (hb : Below B w w') (hB : w.heap.size ≤ B) : w'.ownsRow base e size v n xs :=
  h.kept (row := none) ⟨hb.os, hb.tape, hb.output, hb.size, fun k hk _ => hb.block k (Nat.lt_of_lt_of_le hk hB)⟩ (by cases v.ownBlock <;> simp)

theorem Bytes.grown {w w' : World} {row : Option Nat} {ao : Option Addr} {l : List Nat} (h : Bytes w ao l) (hg : w.grownBy w' row) (hne : ∀ a, ao = some a → row ≠ some a.block) : Bytes w' ao l := by
  intro j hj
  obtain ⟨h1, b, off, h2, h3⟩ := h j hj
  exact ⟨h1, b, off, h2, hg.cell h3 (fun e => hne _ h2 e.symm)⟩

theorem hd_lt (d : Nat) (h : d < 16) : hd d < 256 := by unfold hd; split <;> omega

theorem hexl_lt (l : List Nat) (hl : ∀ x ∈ l, x < 256) : ∀ x ∈ hexl l, x < 256 := by
  intro x hx
  simp only [hexl, List.mem_flatMap] at hx
  obtain ⟨o, ho, hx⟩ := hx
  have := hl o ho
  simp only [List.mem_cons, List.not_mem_nil, or_false] at hx
  rcases hx with rfl | rfl | rfl
  · decide
  · exact hd_lt _ (by omega)
  · exact hd_lt _ (by omega)

theorem hexl_get (l : List Nat) : ∀ k, k < l.length → (hexl l)[3 * k]? = some 92 ∧ (hexl l)[3 * k + 1]? = some (hd (l[k]?.getD 0 / 16)) ∧ (hexl l)[3 * k + 2]? = some (hd (l[k]?.getD 0 % 16)) := by
  induction l with
  | nil => intro k hk; simp at hk
  | cons x r ih =>
    intro k hk
    have e : hexl (x :: r) = [92, hd (x / 16), hd (x % 16)] ++ hexl r := by simp [hexl]
    rw [e]
    cases k with
    | zero => simp
    | succ k =>
      have hk' : k < r.length := by simp at hk; omega
      have h := ih k hk'
      rw [show 3 * (k + 1) = 3 * k + 3 by omega, show 3 * k + 3 + 1 = 3 * k + 1 + 3 by omega, show 3 * k + 3 + 2 = 3 * k + 2 + 3 by omega]
      rw [List.getElem?_append_right (by simp), List.getElem?_append_right (by simp), List.getElem?_append_right (by simp)]
      simpa using h

theorem out_get (lb lo : List Nat) (n k : Nat) (hn : n = lb.length) (hk : k < lo.length) :
    (lb ++ hexl lo)[n + 3 * k]?.getD 0 = 92 ∧ (lb ++ hexl lo)[n + 3 * k + 1]?.getD 0 = hd (lo[k]?.getD 0 / 16) ∧ (lb ++ hexl lo)[n + 3 * k + 2]?.getD 0 = hd (lo[k]?.getD 0 % 16) := by
  subst hn
  obtain ⟨h1, h2, h3⟩ := hexl_get lo k hk
  rw [List.getElem?_append_right (by omega), List.getElem?_append_right (by omega), List.getElem?_append_right (by omega)]
  rw [show lb.length + 3 * k - lb.length = 3 * k by omega, show lb.length + 3 * k + 1 - lb.length = 3 * k + 1 by omega, show lb.length + 3 * k + 2 - lb.length = 3 * k + 2 by omega]
  rw [h1, h2, h3]
  simp

theorem zz7_any (ao bo : Option Addr) (n m ca cb : Nat) (w : World) (hn : n + m ≤ 1048576) :
    Calls Try.prog 7 #[.slice ao n ca, .slice bo m cb] w fun e w' => e = .returned (.bool true) ∧ w' = w := by
  go_enter Try.func7, Try.ntmps7
  go_wp2
  go_ret
  exact ⟨rfl, rfl⟩

theorem zz7_not (ao bo : Option Addr) (n m ca cb : Nat) (w : World) (h1 : n ≤ maxLen) (h2 : m ≤ maxLen) (hn : 1048576 < n + m) :
    Calls Try.prog 7 #[.slice ao n ca, .slice bo m cb] w fun e w' => e = .returned (.bool false) ∧ w' = w := by
  unfold maxLen at h1 h2
  by_cases c1 : 1048576 < n
  · go_enter Try.func7, Try.ntmps7
    go_wp2
    go_ret
    exact ⟨rfl, rfl⟩
  · by_cases c2 : 1048576 < m
    · go_enter Try.func7, Try.ntmps7
      go_wp2
      go_ret
      exact ⟨rfl, rfl⟩
    · go_enter Try.func7, Try.ntmps7
      go_wp2
      go_ret
      exact ⟨rfl, rfl⟩

theorem dec_huge (ao bo : Option Addr) (n m ca cb : Nat) (w : World) (h1 : n ≤ maxLen) (h2 : m ≤ maxLen) (hn : 1048576 < n + m) :
    Calls Try.prog 3 #[.slice ao n ca, .slice bo m cb] w fun e w' => e = .returned (.bool true) ∧ Below w.heap.size w w' := by
  go_enter Try.func3, Try.ntmps3
  go_wp2_with (go_at_call 7; refine (zz7_not ao bo n m ca cb w h1 h2 hn).mono ?_; rintro e w' ⟨rfl, rfl⟩)
  go_ret
  exact ⟨rfl, Below.refl _ _⟩

set_option maxHeartbeats 1000000 in
theorem dec_main (ao bo : Option Addr) (n m ca cb : Nat) (lb lo : List Nat) (HN : Hid (n = lb.length)) (HM : Hid (m = lo.length)) (w : World) (hnm : n + m ≤ 1048576) (ha : Bytes w ao lb) (hb : Bytes w bo lo) :
    Calls Try.prog 3 #[.slice ao n ca, .slice bo m cb] w fun e w' => e = .returned (.bool true) ∧ Below w.heap.size w w' := by
  have HLb : Hid (∀ x ∈ lb, x < 256) := ha.lt
  have HLo : Hid (∀ x ∈ lo, x < 256) := hb.lt
  go_enter Try.func3, Try.ntmps3
  go_wp2_with fail
  refine (zz7_any ao bo n m ca cb w hnm).mono ?_
  rintro e w0 ⟨rfl, rfl⟩
  go_wp2_with fail
  refine (copy8_any ao ca n lb HN _ (by omega) ha).mono ?_
  rintro e w1 ⟨v1, rfl, hown1, hbel1⟩
  obtain ⟨a1, c1, hv1, hB1, hf1⟩ := owns_bytes2 HN HLb.out hown1
  subst hv1
  have hb1 := hb.below hbel1 (Nat.le_refl _)
  have ha1 := ha.below hbel1 (Nat.le_refl _)
  go_wp2_with fail
  refine (copy8_any bo cb m lo HM _ (by omega) hb1).mono ?_
  rintro e w2 ⟨v2, rfl, hown2, hbel2⟩
  obtain ⟨a2, c2, hv2, hB2, hf2⟩ := owns_bytes2 HM HLo.out hown2
  subst hv2
  have hb2 := hb1.below hbel2 (Nat.le_refl _)
  have ha2 := ha1.below hbel2 (Nat.le_refl _)
  have hB12 := hB1.below hbel2 (Nat.le_refl _)
  go_wp2_with fail
  refine (copy8_any ao ca n lb HN _ (by omega) ha2).mono ?_
  rintro e w3 ⟨v3, rfl, hown3, hbel3⟩
  have hb3 := hb2.below hbel3 (Nat.le_refl _)
  have hB13 := hB12.below hbel3 (Nat.le_refl _)
  have hB23 := hB2.below hbel3 (Nat.le_refl _)
  go_wp2_with fail
  refine (copy8_any bo cb m lo HM _ (by omega) hb3).mono ?_
  rintro e w4 ⟨v4, rfl, hown4, hbel4⟩
  obtain ⟨a4, c4, hv4, hB4, hf4⟩ := owns_bytes2 HM HLo.out hown4
  subst hv4
  have hown34 := owns_below hown3 hbel4 (Nat.le_refl _)
  have hB14 := hB13.below hbel4 (Nat.le_refl _)
  have hB24 := hB23.below hbel4 (Nat.le_refl _)
  go_wp2_with fail
  have hs1 := hbel1.size
  have hs2 := hbel2.size
  have hs3 := hbel3.size
  have hs4 := hbel4.size
  refine (zhex_any v3 n w2.heap.size m c4 lb lo a4 HM _ hown34 (by omega) hB4 (fun a h1 h2 => by have := (hown3.lt _ h2).2; have := (hf4 a h1).1; omega) (by omega) (by omega)).mono ?_
  rintro e w5 ⟨v5, rfl, hown5, hgr5, hat5⟩
  have hB15 := hB14.grown hgr5 (fun a h1 h2 => by have := (hown3.lt _ h2).1; have := (hf1 a h1).2; omega)
  have hB25 := hB24.grown hgr5 (fun a h1 h2 => by have := (hown3.lt _ h2).1; have := (hf2 a h1).2; omega)
  have HBel : Hid (Below w0.heap.size w0 w5) :=
    (((hbel1.trans (hbel2.mono hs1)).trans (hbel3.mono (by omega))).trans (hbel4.mono (by omega))).grown hgr5 (by omega) (fun k hk => by have := (hown3.lt _ hk).1; omega)
  have HL5 : Hid (n + 3 * m = (lb ++ hexl lo).length) := by show _ = _; rw [List.length_append, hexl_len, HN.out, HM.out]
  obtain ⟨a5, c5, hv5, hB5, hf5⟩ := owns_bytes2 HL5 (fun x hx => by rcases List.mem_append.1 hx with h | h; exact HLb.out x h; exact hexl_lt lo HLo.out x h) hown5
  subst hv5
  have G1 : Hid (Bytes w5 a1 lb) := hB15
  have G2 : Hid (Bytes w5 a2 lo) := hB25
  have G5 : Hid (Bytes w5 a5 (lb ++ hexl lo)) := hB5
  clear ha hb hown1 hbel1 hB1 hf1 hb1 ha1 hown2 hbel2 hB2 hf2 hb2 ha2 hB12 hown3 hbel3 hb3 hB13 hB23 hown4 hbel4 hB4 hf4 hown34 hB14 hB24 hs1 hs2 hs3 hs4 hown5 hgr5 hat5 hB15 hB25 hB5 hf5
  go_wp2
  go_loopw [8] (fun i wr => ∃ k q : Nat, k ≤ n ∧ i = .int .i64 k ∧ wr = w5.drewN q) (fun i _ => n - (intOf i).toNat)
  case atStart => exact ⟨0, 0, Nat.zero_le _, rfl, rfl⟩
  case round =>
    obtain ⟨k, q, hk, rfl, rfl⟩ := hrel
    by_cases hlt : k < n
    · obtain ⟨hb0, b1, o1, ha1, hc1⟩ := G1.out k (by rw [← HN.out]; exact hlt)
      obtain ⟨_, b2, o2, ha2, hc2⟩ := G5.out k (by rw [← HL5.out]; omega)
      simp only at hc1 hc2
      rw [List.getElem?_append_left (by rw [← HN.out]; exact hlt)] at hc2
      subst ha1
      subst ha2
      have hi : (k : Int) < (n : Int) := by omega
      have hi2 : (k : Int) < (n : Int) + 3 * (m : Int) := by omega
      have hi3 : (k : Int) < ((n + 3 * m : Nat) : Int) := by omega
      have hi0 : (0 : Int) ≤ (k : Int) := by omega
      clear hb0
      go_wp2
      go_quiet (fail)
      go_wp2
      go_roundw
      case rel => exact ⟨k + 1, _, by omega, by go_num, rfl⟩
      case measure => simp [intOf]; omega
    · go_wp2
      go_loop [9] (fun i => ∃ k : Nat, k ≤ m ∧ i = .int .i64 k) (fun i => m - (intOf i).toNat)
      case atStart => exact ⟨0, Nat.zero_le _, rfl⟩
      case round =>
        obtain ⟨p, hp, rfl⟩ := hrel
        by_cases hlp : p < m
        · have hpl : p < lo.length := by rw [← HM.out]; exact hlp
          obtain ⟨e0, e1, e2⟩ := out_get lb lo n p HN.out hpl
          obtain ⟨_, b0, o0, ha0, hc0⟩ := G5.out (n + 3 * p) (by rw [← HL5.out]; omega)
          obtain ⟨_, b0', o0', ha0', hc1⟩ := G5.out (n + 3 * p + 1) (by rw [← HL5.out]; omega)
          obtain ⟨_, b0'', o0'', ha0'', hc2⟩ := G5.out (n + 3 * p + 2) (by rw [← HL5.out]; omega)
          obtain ⟨hb0, b4, o4, ha4, hc4⟩ := G2.out p hpl
          subst ha0
          simp only [Option.some.injEq, Addr.mk.injEq, and_true] at ha0' ha0''
          obtain ⟨rfl, rfl⟩ := ha0'
          obtain ⟨rfl, rfl⟩ := ha0''
          subst ha4
          simp only at hc0 hc1 hc2 hc4 hb0
          rw [e0] at hc0
          rw [e1] at hc1
          rw [e2] at hc2
          obtain ⟨o, ho⟩ : ∃ o : Nat, o = lo[p]?.getD 0 := ⟨_, rfl⟩
          rw [← ho] at hc1 hc2 hc4 hb0
          clear e0 e1 e2 ho hpl
          have hq1 : o / 16 ≤ 15 := by omega
          have hq2 : o % 16 ≤ 15 := by omega
          obtain ⟨d1, hd1⟩ : ∃ d, d = o / 16 := ⟨_, rfl⟩
          obtain ⟨d2, hd2⟩ : ∃ d, d = o % 16 := ⟨_, rfl⟩
          rw [← hd1] at hc1 hq1
          rw [← hd2] at hc2 hq2
          have ht : ((d1 : Int) * 16 + (d2 : Int) != (o : Int)) = false := by simp; omega
          clear hd1 hd2
          go_wp2_with fail
          refine (upper_any d1 (by omega) _).mono ?_
          rintro e w6 ⟨rfl, rfl⟩
          go_wp2_with fail
          refine (upper_any d2 (by omega) _).mono ?_
          rintro e w7 ⟨rfl, rfl⟩
          go_wp2
          go_round
          case rel => exact ⟨p + 1, by omega, by go_num⟩
          case measure => simp [intOf]; omega
        · go_wp2
          go_ret
          exact ⟨rfl, below_drewN HBel.out _⟩

theorem dec_any (ao bo : Option Addr) (n m ca cb : Nat) (lb lo : List Nat) (hn : n = lb.length) (hm : m = lo.length) (w : World) (h1 : n ≤ maxLen) (h2 : m ≤ maxLen) (ha : Bytes w ao lb) (hb : Bytes w bo lo) :
    Calls Try.prog 3 #[.slice ao n ca, .slice bo m cb] w fun e w' => e = .returned (.bool true) ∧ Below w.heap.size w w' := by
  by_cases h : 1048576 < n + m
  · exact dec_huge ao bo n m ca cb w h1 h2 h
  · exact dec_main ao bo n m ca cb lb lo hn hm w (by omega) ha hb

end Go.Proofs.Qxb6003731a
