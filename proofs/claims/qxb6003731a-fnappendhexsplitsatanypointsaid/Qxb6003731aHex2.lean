/-
  'zzSameBytes', 'zzConcat', 'zzUpperHexValue' by their contracts.
-/
import Derived.Test.Qxb6003731aHex
import Derived.Deep.QuietTactic
import Derived.BigQuiet
namespace Go.Proofs.Qxb6003731a
open Go.RowKit

set_option maxHeartbeats 400000 in
/-- Two slices that hold the same bytes are told the same. -/
theorem same_any (ao bo : Option Addr) (ca cb n : Nat) (l : List Nat) (HN : Hid (n = l.length)) (w : World) (hn : n ≤ 8388608) (ha : Bytes w ao l) (hb : Bytes w bo l) :
    Calls Try.prog 13 #[.slice ao n ca, .slice bo n cb] w fun e w' => e = .returned (.bool true) ∧ ∃ q, w' = w.drewN q := by
  go_enter Try.func13, Try.ntmps13
  go_wp2
  go_loopw [5] (fun i wr => ∃ k q : Nat, k ≤ n ∧ i = .int .i64 k ∧ wr = w.drewN q) (fun i _ => n - (intOf i).toNat)
  case atStart => exact ⟨0, 0, Nat.zero_le _, rfl, rfl⟩
  case round =>
    obtain ⟨k, q, hk, rfl, rfl⟩ := hrel
    by_cases hlt : k < n
    · obtain ⟨hb0, b1, o1, ha1, hc1⟩ := ha k (by rw [← HN.out]; exact hlt)
      obtain ⟨_, b2, o2, ha2, hc2⟩ := hb k (by rw [← HN.out]; exact hlt)
      subst ha1
      subst ha2
      have hi : (k : Int) < (n : Int) := by omega
      have hi0 : (0 : Int) ≤ (k : Int) := by omega
      simp only at hc1 hc2
      clear ha hb hb0
      go_wp2
      go_quiet (fail)
      go_wp2
      go_roundw
      case rel => exact ⟨k + 1, _, by omega, by go_num, rfl⟩
      case measure => simp [intOf]; omega
    · go_wp2
      go_ret
      exact ⟨rfl, q, rfl⟩

set_option maxHeartbeats 1000000 in
/-- 'zzConcat': a new row: the first bytes, then the second. -/
theorem concat_any (ao bo : Option Addr) (ca cb n m : Nat) (la lb : List Nat) (HA : Hid (n = la.length)) (HB : Hid (m = lb.length)) (w : World) (hn : n ≤ 4194304) (hm : m ≤ 4194304) (ha : Bytes w ao la) (hb : Bytes w bo lb) :
    Calls Try.prog 12 #[.slice ao n ca, .slice bo m cb] w fun e w' => ∃ v, e = .returned v ∧ w'.ownsRow w.heap.size 5 1 v (n + m) (bv (la ++ lb)) ∧ Below w.heap.size w w' := by
  obtain ⟨i0, hi, hz0, hz1, hz2⟩ := info_parts Try.info5
  go_enter Try.func12, Try.ntmps12
  go_wp2_with (at_make; refine wpList_make_full _ rfl _ _ 22 rfl w.heap.size 5 i0 (.int .u8 0) 1 Try.underlying22 hi hz0 hz1 _ _ _ _ (n + m) rfl rfl (by omega) (by omega) (by rw [hz2]; omega) (by unfold maxLen; omega) (Nat.le_refl _) ?_)
  intro w1 hown hgrow
  have hbel : Below w.heap.size w w1 := (Below.refl _ _).grown hgrow (Nat.le_refl _) (fun k hk => by cases hk)
  rw [toList_madeCells_one] at hown
  clear hgrow hi hz0 hz1 hz2
  go_wp2
  go_loopw [6] (fun i wr => ∃ (k : Nat) (xs : List Value), k ≤ n ∧ i = .int .i64 k ∧ wr.ownsRow w.heap.size 5 1 (.slice (some ⟨w.heap.size, 0, none⟩) (n + m) (n + m)) (n + m) xs ∧ xs.length = n + m ∧ (∀ j, j < k → xs[j]? = some (.int .u8 (((la ++ lb)[j]?.getD 0 : Nat) : Int))) ∧ Below w.heap.size w wr) (fun i _ => n - (intOf i).toNat)
  case atStart => exact ⟨0, _, Nat.zero_le _, rfl, hown, by simp, fun j hj => absurd hj (by omega), hbel⟩
  case round =>
    obtain ⟨k, xs, hk, rfl, hownr, hxl, hxs, hbr⟩ := hrel
    by_cases hlt : k < n
    · obtain ⟨hb0, b, off, hae, hcell⟩ := ha k (by rw [← HA.out]; exact hlt)
      have hea : (la ++ lb)[k]?.getD 0 = la[k]?.getD 0 := by rw [List.getElem?_append_left (by rw [← HA.out]; exact hlt)]
      have hcx : wr.cell? ⟨b, off + k, none⟩ = some (.int .u8 ((la[k]?.getD 0 : Nat) : Int)) := (hbr.cell (World.block_lt_of_cell? w _ hcell)).trans hcell
      have hkx : k < xs.length := by omega
      have hcy : wr.cell? ⟨w.heap.size, k, none⟩ = some xs[k] := by rw [hownr.cellAt k (by omega)]; simp [hkx]
      have hfy := hownr.frozenAt k
      obtain ⟨hst, hgr⟩ := hownr.stored k (.int .u8 ((la[k]?.getD 0 : Nat) : Int))
      have hbn := hbr.setCell (p := ⟨w.heap.size, k, none⟩) (Nat.le_refl _) (.int .u8 ((la[k]?.getD 0 : Nat) : Int))
      have HR : Hid (∀ j, j < k + 1 → (xs.set k (.int .u8 ((la[k]?.getD 0 : Nat) : Int)))[j]? = some (.int .u8 (((la ++ lb)[j]?.getD 0 : Nat) : Int))) := by
        intro j hj
        rw [List.getElem?_set]
        by_cases hjk : k = j
        · subst hjk; rw [if_pos rfl, if_pos hkx, hea]
        · rw [if_neg hjk]; exact hxs j (by omega)
      have HL : Hid ((xs.set k (.int .u8 ((la[k]?.getD 0 : Nat) : Int))).length = n + m) := by show _ = _; simp [hxl]
      have HS : Hid _ := hst
      have HBn : Hid _ := hbn
      subst hae
      clear ha hb hownr hxs hst hgr hbn hcell hbr hb0 hea hown hbel
      have hi1 : (k : Int) < ((n + m : Nat) : Int) := by omega
      go_wp2
      go_roundw
      case rel => exact ⟨k + 1, _, by omega, by go_num, HS.out, HL.out, HR.out, HBn.out⟩
      case measure => simp [intOf]; omega
    · have e : k = n := by omega
      subst e
      clear hlt hk hown hbel
      go_wp2
      go_loopw [7] (fun i wq => ∃ (p : Nat) (ys : List Value), p ≤ m ∧ i = .int .i64 p ∧ wq.ownsRow w.heap.size 5 1 (.slice (some ⟨w.heap.size, 0, none⟩) (k + m) (k + m)) (k + m) ys ∧ ys.length = k + m ∧ (∀ j, j < k + p → ys[j]? = some (.int .u8 (((la ++ lb)[j]?.getD 0 : Nat) : Int))) ∧ Below w.heap.size w wq) (fun i _ => m - (intOf i).toNat)
      case atStart => exact ⟨0, xs, Nat.zero_le _, rfl, hownr, hxl, fun j hj => hxs j (by omega), hbr⟩
      case round =>
        clear hownr hxl hxs hbr
        obtain ⟨p, ys, hp, rfl, hownq, hyl, hys, hbq⟩ := hrel
        by_cases hlt : p < m
        · obtain ⟨hb0, b, off, hae, hcell⟩ := hb p (by rw [← HB.out]; exact hlt)
          have hea : (la ++ lb)[k + p]?.getD 0 = lb[p]?.getD 0 := by rw [HA.out, List.getElem?_append_right (by omega)]; simp
          have hcx : wr.cell? ⟨b, off + p, none⟩ = some (.int .u8 ((lb[p]?.getD 0 : Nat) : Int)) := (hbq.cell (World.block_lt_of_cell? w _ hcell)).trans hcell
          have hkx : k + p < ys.length := by omega
          have hcy : wr.cell? ⟨w.heap.size, k + p, none⟩ = some ys[k + p] := by rw [hownq.cellAt (k + p) (by omega)]; simp [hkx]
          have hfy := hownq.frozenAt (k + p)
          obtain ⟨hst, hgr⟩ := hownq.stored (k + p) (.int .u8 ((lb[p]?.getD 0 : Nat) : Int))
          have hbn := hbq.setCell (p := ⟨w.heap.size, k + p, none⟩) (Nat.le_refl _) (.int .u8 ((lb[p]?.getD 0 : Nat) : Int))
          have HR : Hid (∀ j, j < k + (p + 1) → (ys.set (k + p) (.int .u8 ((lb[p]?.getD 0 : Nat) : Int)))[j]? = some (.int .u8 (((la ++ lb)[j]?.getD 0 : Nat) : Int))) := by
            intro j hj
            rw [List.getElem?_set]
            by_cases hjk : k + p = j
            · subst hjk; rw [if_pos rfl, if_pos hkx, hea]
            · rw [if_neg hjk]; exact hys j (by omega)
          have HL : Hid ((ys.set (k + p) (.int .u8 ((lb[p]?.getD 0 : Nat) : Int))).length = k + m) := by show _ = _; simp [hyl]
          have HS : Hid _ := hst
          have HBn : Hid _ := hbn
          subst hae
          clear ha hb hownq hys hst hgr hbn hcell hbq hb0 hea
          have hi1 : (p : Int) < (m : Int) := by omega
          go_wp2
          go_roundw
          case rel => exact ⟨p + 1, _, by omega, by go_num, HS.out, HL.out, HR.out, HBn.out⟩
          case measure => simp [intOf]; omega
        · go_wp2
          go_ret
          have e : p = m := by omega
          subst e
          have := bv_of (la ++ lb) ys (by rw [hyl, List.length_append, ← HA.out, ← HB.out]) (fun j hj => hys j (by rw [List.length_append, ← HA.out, ← HB.out] at hj; exact hj))
          subst this
          exact ⟨_, rfl, hownq, hbq⟩

theorem ret_pair {k : IntKind} {a b : Int} {t : Bool} (h : a = b) : Ending.returned (.tuple #[.int k a, .bool t]) = .returned (.tuple #[.int k b, .bool t]) := by rw [h]

/-- A digit in hex, upper case, is read back. -/
theorem upper_any (d : Nat) (hd16 : d < 16) (w : World) :
    Calls Try.prog 10 #[.int .u8 ((hd d : Nat) : Int)] w fun e w' => e = .returned (.tuple #[.int .u8 (d : Nat), .bool true]) ∧ w' = w := by
  by_cases h : d < 10
  · obtain ⟨c, hc⟩ : ∃ c : Nat, c = 48 + d := ⟨_, rfl⟩
    have e : hd d = c := by rw [hc]; unfold hd; rw [if_pos h]
    rw [e]
    have HC : Hid (c = 48 + d) := hc
    have h1 : 48 ≤ c := by omega
    have h2 : c ≤ 57 := by omega
    clear hc e
    go_enter Try.func10, Try.ntmps10
    go_wp2
    go_ret2
    have := HC.out
    exact ⟨ret_pair (a := (c : Int) - 48) (by omega), rfl⟩
  · obtain ⟨c, hc⟩ : ∃ c : Nat, c = 55 + d := ⟨_, rfl⟩
    have e : hd d = c := by rw [hc]; unfold hd; rw [if_neg h]
    rw [e]
    have HC : Hid (c = 55 + d) := hc
    have h1 : 65 ≤ c := by omega
    have h2 : c ≤ 70 := by omega
    clear hc e
    go_enter Try.func10, Try.ntmps10
    go_wp2
    go_ret2
    have := HC.out
    exact ⟨ret_pair (a := (c : Int) - 65 + 10) (by omega), rfl⟩
end Go.Proofs.Qxb6003731a
