/-
  'FnTrailingBitsDuality': the walk.
-/
import Derived.Test.Qxb6003731aCopy
import Derived.Test.Qxb6003731aPlain3
namespace Go.Proofs.Qxb6003731a
open Go.RowKit

theorem not_byte (x : Nat) (hx : x < 256) : bits BinOp.xor IntKind.u8 (if IntKind.u8.signed = true then -1 else IntKind.u8.max) (x : Int) = ((255 - x : Nat) : Int) := by
  have e : (if IntKind.u8.signed = true then (-1 : Int) else IntKind.u8.max) = ((255 : Nat) : Int) := by decide
  rw [e, u8_xor_nat 255 x (by decide) hx]
  congr 1
  apply Nat.eq_of_testBit_eq
  intro i
  rw [Nat.testBit_xor, show (255 : Nat) = 2 ^ 8 - 1 from rfl, Nat.testBit_two_pow_sub_one]
  have h := Nat.testBit_two_pow_sub_succ (x := x) (n := 8) (by simpa using hx) i
  rw [show 2 ^ 8 - 1 - x = 2 ^ 8 - (x + 1) by omega, h]
  by_cases hi : i < 8
  · simp [hi]
  · have : x.testBit i = false := Nat.testBit_lt_two_pow (Nat.lt_of_lt_of_le hx (by have : 2 ^ 8 ≤ 2 ^ i := Nat.pow_le_pow_right (by decide) (by omega); omega))
    simp [hi, this]

theorem zz14_any (ao : Option Addr) (n cap : Nat) (bit : Int) (w : World) (hn : n ≤ 1048576) :
    Calls Try.prog 14 #[.slice ao n cap, .int .u8 bit] w fun e w' => e = .returned (.bool true) ∧ w' = w := by
  go_enter Try.func14, Try.ntmps14
  go_wp2
  go_ret
  exact ⟨rfl, rfl⟩

theorem ztb_list (ao : Option Addr) (n cap bit : Nat) (l : List Nat) (HN : Hid (n = l.length)) (w : World) (hn : n ≤ 1048576) (hc : Bytes w ao l) :
    Calls Try.prog 16 #[.slice ao n cap, .int .u8 bit] w fun e w' => ∃ t : Nat, e = .returned (.int .i64 t) ∧ (Tail l bit t ∧ t ≤ 8 * n) ∧ w' = w := by
  have h := HN.out
  subst h
  refine (ztb_any ao l.length cap bit (oct l) w hn hc).mono ?_
  rintro e w' ⟨t, rfl, ht, rfl⟩
  exact ⟨t, rfl, ⟨ht, ht.1⟩, rfl⟩

theorem dual_huge (ao : Option Addr) (n cap : Nat) (bit : Int) (w : World) (hm : n ≤ maxLen) (hn : 1048576 < n) :
    Calls Try.prog 5 #[.slice ao n cap, .int .u8 bit] w fun e w' => e = .returned (.bool true) ∧ Below w.heap.size w w' := by
  unfold maxLen at hm
  go_enter Try.func5, Try.ntmps5
  go_wp2
  go_ret
  exact ⟨rfl, Below.refl _ _⟩

theorem dual_big (ao : Option Addr) (n cap : Nat) (bit : Int) (w : World) (hm : n ≤ 1048576) (hn : 65536 < n) :
    Calls Try.prog 5 #[.slice ao n cap, .int .u8 bit] w fun e w' => e = .returned (.bool true) ∧ Below w.heap.size w w' := by
  go_enter Try.func5, Try.ntmps5
  go_wp2
  go_ret
  exact ⟨rfl, Below.refl _ _⟩

set_option maxHeartbeats 1000000 in
theorem dual_pos (ao : Option Addr) (n cap bit : Nat) (l : List Nat) (HN : Hid (n = l.length)) (w : World) (hn : n ≤ 65536) (hn0 : 0 < n) (hbit : bit < 256) (hc : Bytes w ao l) :
    Calls Try.prog 5 #[.slice ao n cap, .int .u8 bit] w fun e w' => e = .returned (.bool true) ∧ Below w.heap.size w w' := by
  have hl := hc.lt
  have HL : Hid (∀ x ∈ l, x < 256) := hl
  clear hl
  obtain ⟨i0, hi, hz0, hz1, hz2⟩ := info_parts Try.info5
  go_enter Try.func5, Try.ntmps5
  go_wp2_with fail
  refine (zz14_any ao n cap bit w (by omega)).mono ?_
  rintro e w0 ⟨rfl, rfl⟩
  go_wp2_with fail
  refine (copy15_any ao cap n l HN _ (by omega) hc).mono ?_
  rintro e w1 ⟨v, rfl, hown, hbel⟩
  obtain ⟨ao1, cap1, hv, hB⟩ := owns_bytes HN.out HL.out hown
  rw [← HN.out] at hv
  subst hv
  clear hown hc
  go_wp2_with fail
  refine (ztb_list ao1 n cap1 0 l HN w1 (by omega) hB).mono ?_
  rintro e w2 ⟨t0, rfl, ⟨ht0, hle0⟩, rfl⟩
  have HT0 : Hid (Tail l 0 t0) := ht0
  clear ht0
  go_wp2_with fail
  refine (ztb_list ao1 n cap1 1 l HN _ (by omega) hB).mono ?_
  rintro e w3 ⟨t1, rfl, ⟨ht1, hle1⟩, rfl⟩
  have HT1 : Hid (Tail l 1 t1) := ht1
  clear ht1
  have HF : Hid (((t0 : Int) == (n : Int) * 8) = allz l n) := by
    have h := tail_full HL.out HT0.out
    rw [← HN.out] at h
    exact h
  have hx : (((t0 : Int) == 0) == ((t1 : Int) == 0)) = false := tail_one (by rw [← HN.out]; exact hn0) HT0.out HT1.out
  go_wp2_with (at_make; refine wpList_make_full _ rfl _ _ 22 rfl w3.heap.size 5 i0 (.int .u8 0) 1 Try.underlying22 hi hz0 hz1 _ _ _ _ n rfl rfl rfl rfl (by rw [hz2]; omega) (by unfold maxLen; omega) (Nat.le_refl _) ?_)
  intro w4 hown hgrow
  have hbel4 : Below w3.heap.size w3 w4 := (Below.refl _ _).grown hgrow (Nat.le_refl _) (fun k hk => by cases hk)
  rw [toList_madeCells_one] at hown
  clear hgrow hi hz0 hz1 hz2 hx
  go_wp2
  go_loopw [9] (fun i wr => ∃ (k : Nat) (xs : List Value), k ≤ n ∧ i = .int .i64 k ∧ wr.ownsRow w3.heap.size 5 1 (.slice (some ⟨w3.heap.size, 0, none⟩) n n) n xs ∧ xs.length = n ∧ (∀ j, j < k → xs[j]? = some (.int .u8 (((compl l)[j]?.getD 0 : Nat) : Int))) ∧ Below w3.heap.size w3 wr) (fun i _ => n - (intOf i).toNat)
  case atStart => exact ⟨0, _, Nat.zero_le _, rfl, hown, by simp, fun j hj => absurd hj (by omega), hbel4⟩
  case round =>
    obtain ⟨k, xs, hk, rfl, hownr, hxl, hxs, hbr⟩ := hrel
    by_cases hlt : k < n
    · obtain ⟨hb0, b, off, ha, hcell⟩ := hB k (by rw [← HN.out]; exact hlt)
      have hcx : wr.cell? ⟨b, off + k, none⟩ = some (.int .u8 ((l[k]?.getD 0 : Nat) : Int)) := (hbr.cell (World.block_lt_of_cell? w3 _ hcell)).trans hcell
      have hcy : wr.cell? ⟨w3.heap.size, k, none⟩ = some xs[k] := by rw [hownr.cellAt k (by omega)]; simp [hxl, hlt]
      have hfy := hownr.frozenAt k
      have HX : Hid _ := not_byte (l[k]?.getD 0) hb0
      obtain ⟨hst, hgr⟩ := hownr.stored k (.int .u8 ((255 - l[k]?.getD 0 : Nat) : Int))
      have hbn := hbr.setCell (p := ⟨w3.heap.size, k, none⟩) (Nat.le_refl _) (.int .u8 ((255 - l[k]?.getD 0 : Nat) : Int))
      have HR : Hid (∀ j, j < k + 1 → (xs.set k (.int .u8 ((255 - l[k]?.getD 0 : Nat) : Int)))[j]? = some (.int .u8 (((compl l)[j]?.getD 0 : Nat) : Int))) := by
        intro j hj
        rw [List.getElem?_set]
        by_cases hjk : k = j
        · subst hjk
          have hkl : k < l.length := by rw [← HN.out]; exact hlt
          simp [hxl, hlt, compl, hkl]
        · rw [if_neg hjk]; exact hxs j (by omega)
      have HLe : Hid ((xs.set k (.int .u8 ((255 - l[k]?.getD 0 : Nat) : Int))).length = n) := by show _ = _; simp [hxl]
      have HS : Hid _ := hst
      have HB : Hid _ := hbn
      clear hbel hbel4 hown hownr hxs hst hgr hbn hcell hbr hb0
      subst ha
      go_wp2
      go_roundw
      case rel =>
        rw [HX.out]
        exact ⟨k + 1, _, by omega, by go_num, HS.out, HLe.out, HR.out, HB.out⟩
      case measure => simp [intOf]; omega
    · have e : k = n := by omega
      have hxe := bv_of (compl l) xs (by rw [hxl, compl_len]; exact HN.out) (fun j hj => hxs j (by rw [e, HN.out, ← compl_len]; exact hj))
      rw [hxe] at hownr
      obtain ⟨ao2, cap2, hv2, hB2⟩ := owns_bytes (l := compl l) (by rw [compl_len]; exact HN.out) (fun x hx => by simp only [compl, List.mem_map] at hx; obtain ⟨y, _, rfl⟩ := hx; omega) hownr
      have hB1 : Bytes wr ao1 l := hB.below hbr (Nat.le_refl _)
      have HBel : Hid (Below w0.heap.size w0 wr) := hbel.trans (hbr.mono hbel.size)
      rw [compl_len, ← HN.out] at hv2
      simp only [Value.slice.injEq] at hv2
      obtain ⟨rfl, -, rfl⟩ := hv2
      have HN2 : Hid (n = (compl l).length) := by rw [compl_len]; exact HN
      clear hbel hbel4 hown hxs hxe hownr hbr hB e
      go_wp2_with fail
      refine (ztb_list _ n _ 1 (compl l) HN2 wr (by omega) hB2).mono ?_
      rintro e w5 ⟨t2, rfl, ⟨ht2, hle2⟩, rfl⟩
      obtain rfl := tail_compl_eq HL.out (b := 0) (by decide) HT0.out ht2
      clear ht2
      go_wp2_with fail
      refine (ztb_list _ n _ 0 (compl l) HN2 _ (by omega) hB2).mono ?_
      rintro e w6 ⟨t3, rfl, ⟨ht3, hle3⟩, rfl⟩
      obtain rfl := tail_compl_eq HL.out (b := 1) (by decide) HT1.out ht3
      clear ht3
      go_wp2_with fail
      have HB1 : Hid (Bytes w6 ao1 l) := hB1
      clear hB1 hB2
      go_loop [10, 11] (fun z i => ∃ k : Nat, k ≤ n ∧ i = .int .i64 k ∧ z = .bool (allz l k)) (fun _ i => n - (intOf i).toNat)
      case atStart => exact ⟨0, Nat.zero_le _, rfl, by rw [allz_zero]⟩
      case round =>
        obtain ⟨m, hm, rfl, rfl⟩ := hrel
        by_cases hltm : m < n
        · obtain ⟨hb0, b, off, ha, hcell⟩ := HB1.out m (by rw [← HN.out]; exact hltm)
          subst ha
          have HZ : Hid (allz l (m + 1) = (allz l m && (l[m]?.getD 0 == 0))) := allz_succ l m (by rw [← HN.out]; exact hltm)
          clear hb0
          obtain ⟨q, hq⟩ : ∃ q : Nat, q = l[m]?.getD 0 := ⟨_, rfl⟩
          have HQ : Hid (q = l[m]?.getD 0) := hq
          simp only [← hq] at hcell
          clear hq
          rcases (show q = 0 ∨ 0 < q by omega) with hq0 | hq0
          · have HQ0 : Hid (q = 0) := hq0
            have hqq : ((q : Int) != 0) = false := by simp [hq0]
            clear hq0
            go_wp2
            go_round
            case rel => exact ⟨m + 1, by omega, by go_num, by rw [HZ.out, ← HQ.out, HQ0.out]; simp⟩
            case measure => simp [intOf]; omega
          · have HQ0 : Hid (0 < q) := hq0
            have hqq : ((q : Int) != 0) = true := by simp; omega
            clear hq0
            go_wp2
            go_round
            case rel =>
              refine ⟨m + 1, by omega, by go_num, ?_⟩
              have h := HQ0.out
              rw [HZ.out, ← HQ.out]
              have e : (q == 0) = false := by simp; omega
              simp [e]
            case measure => simp [intOf]; omega
        · have em : m = n := by omega
          subst em
          have hf := HF.out
          rcases (show bit ≤ 1 ∨ 1 < bit by omega) with hb1 | hb1
          · go_wp2_with fail
            go_ret
            exact ⟨rfl, HBel.out⟩
          · go_wp2_with fail
            refine (ztb_list ao1 m cap1 bit l HN _ (by omega) HB1.out).mono ?_
            rintro e w7 ⟨t4, rfl, ⟨ht4, hle4⟩, rfl⟩
            obtain rfl := tail_big hb1 ht4
            clear ht4
            go_wp2_with fail
            go_ret
            exact ⟨rfl, HBel.out⟩

theorem bytes_nil (w : World) (ao : Option Addr) : Bytes w ao [] := fun j hj => absurd hj (by simp)

set_option maxHeartbeats 1000000 in
theorem dual_zero (ao : Option Addr) (cap bit : Nat) (w : World) (hbit : bit < 256) :
    Calls Try.prog 5 #[.slice ao 0 cap, .int .u8 bit] w fun e w' => e = .returned (.bool true) ∧ Below w.heap.size w w' := by
  have hmk : ∀ w, (Instr.makeSlice 22 (.int .i64 0) (.int .i64 0)).run Try.prog w = .ok (.slice (some ⟨w.heap.size, 0, none⟩) 0 0) (w.alloc (.cells #[] 5)) := fun _ => by kernel_rfl
  go_enter Try.func5, Try.ntmps5
  go_wp2_with fail
  refine (zz14_any ao 0 cap bit w (by omega)).mono ?_
  rintro e w0 ⟨rfl, rfl⟩
  go_wp2_with fail
  refine (copy15_any ao cap 0 [] rfl _ (by omega) (bytes_nil _ _)).mono ?_
  rintro e w1 ⟨v, rfl, hown, hbel⟩
  obtain ⟨ao1, cap1, hv, hB⟩ := owns_bytes (l := []) rfl (by simp) hown
  rw [List.length_nil] at hv
  subst hv
  clear hown hB
  go_wp2_with fail
  refine (ztb_list ao1 0 cap1 0 [] rfl w1 (by omega) (bytes_nil _ _)).mono ?_
  rintro e w2 ⟨t0, rfl, ⟨-, hle0⟩, rfl⟩
  obtain rfl : t0 = 0 := by omega
  go_wp2_with fail
  refine (ztb_list ao1 0 cap1 1 [] rfl _ (by omega) (bytes_nil _ _)).mono ?_
  rintro e w3 ⟨t1, rfl, ⟨-, hle1⟩, rfl⟩
  obtain rfl : t1 = 0 := by omega
  go_wp2_with fail
  refine wp_loop_rounds 1 ?_
  rw [rounds_succ]
  go_wp2_with fail
  refine (ztb_list _ 0 _ 1 [] rfl _ (by omega) (bytes_nil _ _)).mono ?_
  rintro e w4 ⟨t2, rfl, ⟨-, hle2⟩, hw4⟩
  obtain rfl : t2 = 0 := by omega
  subst hw4
  go_wp2_with fail
  refine (ztb_list _ 0 _ 0 [] rfl _ (by omega) (bytes_nil _ _)).mono ?_
  rintro e w5 ⟨t3, rfl, ⟨-, hle3⟩, hw5⟩
  obtain rfl : t3 = 0 := by omega
  subst hw5
  go_wp2_with fail
  refine wp_loop_rounds 1 ?_
  rw [rounds_succ]
  rcases (show bit ≤ 1 ∨ 1 < bit by omega) with hb1 | hb1
  · go_wp2_with fail
    go_ret
    exact ⟨rfl, hbel.alloc hbel.size _⟩
  · go_wp2_with fail
    refine (ztb_list ao1 0 cap1 bit [] rfl _ (by omega) (bytes_nil _ _)).mono ?_
    rintro e w7 ⟨t4, rfl, ⟨-, hle4⟩, hw7⟩
    obtain rfl : t4 = 0 := by omega
    subst hw7
    go_wp2_with fail
    go_ret
    exact ⟨rfl, hbel.alloc hbel.size _⟩

theorem dual_any (ao : Option Addr) (n cap bit : Nat) (l : List Nat) (hl : n = l.length) (w : World) (hm : n ≤ maxLen) (hbit : bit < 256) (hc : Bytes w ao l) :
    Calls Try.prog 5 #[.slice ao n cap, .int .u8 bit] w fun e w' => e = .returned (.bool true) ∧ Below w.heap.size w w' := by
  by_cases h1 : 1048576 < n
  · exact dual_huge ao n cap bit w hm h1
  · by_cases h2 : 65536 < n
    · exact dual_big ao n cap bit w (by omega) h2
    · by_cases h3 : n = 0
      · subst h3; exact dual_zero ao cap bit w hbit
      · exact dual_pos ao n cap bit l hl w (by omega) (by omega) hbit hc

end Go.Proofs.Qxb6003731a
