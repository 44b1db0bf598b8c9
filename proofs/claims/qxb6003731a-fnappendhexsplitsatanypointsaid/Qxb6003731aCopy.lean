/-
  Bytes in memory; 'zzCopyBytes' and 'zzCloneBytes' by one contract each.
-/
import Derived.Test.Qxb6003731aTb
namespace Go.Proofs.Qxb6003731a
open Go.RowKit

theorem Try.info5 : (Try.prog.info? 5).map (fun i => (i.zero, i.size, i.bytes)) = some (some (.int .u8 0), 1, 1) := by kernel_rfl

/-- Bytes as values. -/
def bv (l : List Nat) : List Value := l.map (fun x => Value.int .u8 (x : Nat))

theorem bv_len (l : List Nat) : (bv l).length = l.length := by simp [bv]

theorem bv_at (l : List Nat) (j : Nat) (hj : j < l.length) : (bv l)[j]? = some (.int .u8 ((l[j]?.getD 0 : Nat) : Int)) := by
  simp [bv, hj]

theorem bv_of (l : List Nat) (xs : List Value) (hn : xs.length = l.length) (h : ∀ j, j < l.length → xs[j]? = some (.int .u8 ((l[j]?.getD 0 : Nat) : Int))) : xs = bv l := by
  apply List.ext_getElem?
  intro j
  by_cases hj : j < l.length
  · rw [h j hj, bv_at l j hj]
  · rw [List.getElem?_eq_none (by omega), List.getElem?_eq_none (by rw [bv_len]; omega)]

/-- The first bytes at the address ao are the list l. -/
def Bytes (w : World) (ao : Option Addr) (l : List Nat) : Prop := HasBytes w ao l.length (fun j => l[j]?.getD 0)

/-- A row that the call owns is read as bytes. -/
theorem owns_bytes {w : World} {base : Nat} {v : Value} {n : Nat} {l : List Nat} (hn : n = l.length) (hl : ∀ x ∈ l, x < 256) (h : w.ownsRow base 5 1 v n (bv l)) :
    ∃ ao cap, v = .slice ao l.length cap ∧ Bytes w ao l := by
  subst hn
  rcases h.2 with ⟨rfl, h0⟩ | ⟨g, cap, cur, rfl, hb, hg, hrest⟩
  · have e : l = [] := List.eq_nil_of_length_eq_zero h0
    subst e
    exact ⟨none, 0, rfl, fun j hj => absurd hj (by simp)⟩
  · refine ⟨_, _, rfl, fun j hj => ⟨?_, g, 0, rfl, ?_⟩⟩
    · show l[j]?.getD 0 < 256
      have : l[j]? = some l[j] := List.getElem?_eq_getElem hj
      rw [this]
      exact hl _ (List.getElem_mem hj)
    · have := h.cellAt j (by omega)
      rw [Nat.zero_add, this, bv_at l j hj]

/-- Bytes that were there are there behind a call that turns nothing below. -/
theorem Bytes.below {w w' : World} {B : Nat} {ao : Option Addr} {l : List Nat} (h : Bytes w ao l) (hb : Below B w w') (hB : w.heap.size ≤ B) : Bytes w' ao l := by
  intro j hj
  obtain ⟨h1, b, off, h2, h3⟩ := h j hj
  refine ⟨h1, b, off, h2, ?_⟩
  rw [hb.cell (p := ⟨b, off + j, none⟩) (Nat.lt_of_lt_of_le (World.block_lt_of_cell? w _ h3) hB)]
  exact h3

theorem Bytes.lt {w : World} {ao : Option Addr} {l : List Nat} (h : Bytes w ao l) : ∀ x ∈ l, x < 256 := by
  intro x hx
  obtain ⟨j, hj, rfl⟩ := List.getElem_of_mem hx
  have := (h j hj).1
  simpa [hj] using this

set_option maxHeartbeats 400000 in
theorem copy15_some (a : Addr) (cap n : Nat) (l : List Nat) (HN : Hid (n = l.length)) (w : World) (hn : n ≤ 1048576) (hc : Bytes w (some a) l) :
    Calls Try.prog 15 #[.slice (some a) n cap] w fun e w' => ∃ v, e = .returned v ∧ w'.ownsRow w.heap.size 5 1 v n (bv l) ∧ Below w.heap.size w w' := by
  have hnil := fun w => Lib.run_eql_slice_nil (P := Try.prog) w 22 5 (some a) n cap 0 0 Try.underlying22
  obtain ⟨i0, hi, hz0, hz1, hz2⟩ := info_parts Try.info5
  go_enter Try.func15, Try.ntmps15
  go_wp2_with (at_make; refine wpList_make_full _ rfl _ _ 22 rfl w.heap.size 5 i0 (.int .u8 0) 1 Try.underlying22 hi hz0 hz1 _ _ _ _ n rfl rfl rfl rfl (by rw [hz2]; omega) (by unfold maxLen; omega) (Nat.le_refl _) ?_)
  intro w1 hown hgrow
  have hbel : Below w.heap.size w w1 := (Below.refl _ _).grown hgrow (Nat.le_refl _) (fun k hk => by cases hk)
  rw [toList_madeCells_one] at hown
  clear hgrow hnil hi hz0 hz1 hz2
  go_wp2
  go_loopw [4] (fun i wr => ∃ (k : Nat) (xs : List Value), k ≤ n ∧ i = .int .i64 k ∧ wr.ownsRow w.heap.size 5 1 (.slice (some ⟨w.heap.size, 0, none⟩) n n) n xs ∧ xs.length = n ∧ (∀ j, j < k → xs[j]? = some (.int .u8 ((l[j]?.getD 0 : Nat) : Int))) ∧ Below w.heap.size w wr) (fun i _ => n - (intOf i).toNat)
  case atStart => exact ⟨0, _, Nat.zero_le _, rfl, hown, by simp, fun j hj => absurd hj (by omega), hbel⟩
  case round =>
    obtain ⟨k, xs, hk, rfl, hownr, hxl, hxs, hbr⟩ := hrel
    by_cases hlt : k < n
    · obtain ⟨hb0, b, off, ha, hcell⟩ := hc k (by rw [← HN.out]; exact hlt)
      simp only [Option.some.injEq] at ha
      have hcx : wr.cell? ⟨b, off + k, none⟩ = some (.int .u8 ((l[k]?.getD 0 : Nat) : Int)) := (hbr.cell (World.block_lt_of_cell? w _ hcell)).trans hcell
      have hcy : wr.cell? ⟨w.heap.size, k, none⟩ = some xs[k] := by rw [hownr.cellAt k (by omega)]; simp [hxl, hlt]
      have hfy := hownr.frozenAt k
      obtain ⟨hst, hgr⟩ := hownr.stored k (.int .u8 ((l[k]?.getD 0 : Nat) : Int))
      have hbn := hbr.setCell (p := ⟨w.heap.size, k, none⟩) (Nat.le_refl _) (.int .u8 ((l[k]?.getD 0 : Nat) : Int))
      have HR : Hid (∀ j, j < k + 1 → (xs.set k (.int .u8 ((l[k]?.getD 0 : Nat) : Int)))[j]? = some (.int .u8 ((l[j]?.getD 0 : Nat) : Int))) := by
        intro j hj
        rw [List.getElem?_set]
        by_cases hjk : k = j
        · subst hjk; simp [hxl, hlt]
        · rw [if_neg hjk]; exact hxs j (by omega)
      have HL : Hid ((xs.set k (.int .u8 ((l[k]?.getD 0 : Nat) : Int))).length = n) := by show _ = _; simp [hxl]
      have HS : Hid _ := hst
      have HB : Hid _ := hbn
      subst ha
      clear hc hownr hxs hst hgr hbn hcell hbr hb0
      go_wp2
      go_roundw
      case rel => exact ⟨k + 1, _, by omega, by go_num, HS.out, HL.out, HR.out, HB.out⟩
      case measure => simp [intOf]; omega
    · go_wp2
      go_ret
      have e : k = n := by omega
      subst e
      have := bv_of l xs (by rw [hxl]; exact HN.out) (fun j hj => hxs j (by rw [HN.out]; exact hj))
      subst this
      exact ⟨_, rfl, hownr, hbr⟩

theorem copy15_none (cap n : Nat) (l : List Nat) (HN : Hid (n = l.length)) (hl : l = []) (w : World) :
    Calls Try.prog 15 #[.slice none n cap] w fun e w' => ∃ v, e = .returned v ∧ w'.ownsRow w.heap.size 5 1 v n (bv l) ∧ Below w.heap.size w w' := by
  have hnil := fun w => Lib.run_eql_slice_nil (P := Try.prog) w 22 5 none n cap 0 0 Try.underlying22
  have HL : Hid (l = []) := hl
  clear hl
  go_enter Try.func15, Try.ntmps15
  go_wp2
  go_ret
  have h1 := HL.out
  subst h1
  have h2 : n = 0 := HN.out
  subst h2
  exact ⟨_, rfl, World.ownsRow_nil _ _ _ _, Below.refl _ _⟩

/-- 'zzCloneBytes': a new row with the same bytes; nothing that was there is turned. -/
theorem copy15_any (ao : Option Addr) (cap n : Nat) (l : List Nat) (HN : Hid (n = l.length)) (w : World) (hn : n ≤ 1048576) (hc : Bytes w ao l) :
    Calls Try.prog 15 #[.slice ao n cap] w fun e w' => ∃ v, e = .returned v ∧ w'.ownsRow w.heap.size 5 1 v n (bv l) ∧ Below w.heap.size w w' := by
  cases ao with
  | some a => exact copy15_some a cap n l HN w hn hc
  | none =>
    refine copy15_none cap n l HN ?_ w
    cases l with
    | nil => rfl
    | cons x r =>
      obtain ⟨_, b, off, h, _⟩ := hc 0 (by simp)
      cases h

set_option maxHeartbeats 400000 in
theorem copy8_some (a : Addr) (cap n : Nat) (l : List Nat) (HN : Hid (n = l.length)) (w : World) (hn : n ≤ 1048576) (hc : Bytes w (some a) l) :
    Calls Try.prog 8 #[.slice (some a) n cap] w fun e w' => ∃ v, e = .returned v ∧ w'.ownsRow w.heap.size 5 1 v n (bv l) ∧ Below w.heap.size w w' := by
  have hnil := fun w => Lib.run_eql_slice_nil (P := Try.prog) w 22 5 (some a) n cap 0 0 Try.underlying22
  obtain ⟨i0, hi, hz0, hz1, hz2⟩ := info_parts Try.info5
  go_enter Try.func8, Try.ntmps8
  go_wp2_with (at_make; refine wpList_make_full _ rfl _ _ 22 rfl w.heap.size 5 i0 (.int .u8 0) 1 Try.underlying22 hi hz0 hz1 _ _ _ _ n rfl rfl rfl rfl (by rw [hz2]; omega) (by unfold maxLen; omega) (Nat.le_refl _) ?_)
  intro w1 hown hgrow
  have hbel : Below w.heap.size w w1 := (Below.refl _ _).grown hgrow (Nat.le_refl _) (fun k hk => by cases hk)
  rw [toList_madeCells_one] at hown
  clear hgrow hnil hi hz0 hz1 hz2
  go_wp2
  go_loopw [4] (fun i wr => ∃ (k : Nat) (xs : List Value), k ≤ n ∧ i = .int .i64 k ∧ wr.ownsRow w.heap.size 5 1 (.slice (some ⟨w.heap.size, 0, none⟩) n n) n xs ∧ xs.length = n ∧ (∀ j, j < k → xs[j]? = some (.int .u8 ((l[j]?.getD 0 : Nat) : Int))) ∧ Below w.heap.size w wr) (fun i _ => n - (intOf i).toNat)
  case atStart => exact ⟨0, _, Nat.zero_le _, rfl, hown, by simp, fun j hj => absurd hj (by omega), hbel⟩
  case round =>
    obtain ⟨k, xs, hk, rfl, hownr, hxl, hxs, hbr⟩ := hrel
    by_cases hlt : k < n
    · obtain ⟨hb0, b, off, ha, hcell⟩ := hc k (by rw [← HN.out]; exact hlt)
      simp only [Option.some.injEq] at ha
      have hcx : wr.cell? ⟨b, off + k, none⟩ = some (.int .u8 ((l[k]?.getD 0 : Nat) : Int)) := (hbr.cell (World.block_lt_of_cell? w _ hcell)).trans hcell
      have hcy : wr.cell? ⟨w.heap.size, k, none⟩ = some xs[k] := by rw [hownr.cellAt k (by omega)]; simp [hxl, hlt]
      have hfy := hownr.frozenAt k
      obtain ⟨hst, hgr⟩ := hownr.stored k (.int .u8 ((l[k]?.getD 0 : Nat) : Int))
      have hbn := hbr.setCell (p := ⟨w.heap.size, k, none⟩) (Nat.le_refl _) (.int .u8 ((l[k]?.getD 0 : Nat) : Int))
      have HR : Hid (∀ j, j < k + 1 → (xs.set k (.int .u8 ((l[k]?.getD 0 : Nat) : Int)))[j]? = some (.int .u8 ((l[j]?.getD 0 : Nat) : Int))) := by
        intro j hj
        rw [List.getElem?_set]
        by_cases hjk : k = j
        · subst hjk; simp [hxl, hlt]
        · rw [if_neg hjk]; exact hxs j (by omega)
      have HL : Hid ((xs.set k (.int .u8 ((l[k]?.getD 0 : Nat) : Int))).length = n) := by show _ = _; simp [hxl]
      have HS : Hid _ := hst
      have HB : Hid _ := hbn
      subst ha
      clear hc hownr hxs hst hgr hbn hcell hbr hb0
      go_wp2
      go_roundw
      case rel => exact ⟨k + 1, _, by omega, by go_num, HS.out, HL.out, HR.out, HB.out⟩
      case measure => simp [intOf]; omega
    · go_wp2
      go_ret
      have e : k = n := by omega
      subst e
      have := bv_of l xs (by rw [hxl]; exact HN.out) (fun j hj => hxs j (by rw [HN.out]; exact hj))
      subst this
      exact ⟨_, rfl, hownr, hbr⟩

theorem copy8_none (cap n : Nat) (l : List Nat) (HN : Hid (n = l.length)) (hl : l = []) (w : World) :
    Calls Try.prog 8 #[.slice none n cap] w fun e w' => ∃ v, e = .returned v ∧ w'.ownsRow w.heap.size 5 1 v n (bv l) ∧ Below w.heap.size w w' := by
  have hnil := fun w => Lib.run_eql_slice_nil (P := Try.prog) w 22 5 none n cap 0 0 Try.underlying22
  have HL : Hid (l = []) := hl
  clear hl
  go_enter Try.func8, Try.ntmps8
  go_wp2
  go_ret
  have h1 := HL.out
  subst h1
  have h2 : n = 0 := HN.out
  subst h2
  exact ⟨_, rfl, World.ownsRow_nil _ _ _ _, Below.refl _ _⟩

/-- 'zzCopyBytes': a new row with the same bytes; nothing that was there is turned. -/
theorem copy8_any (ao : Option Addr) (cap n : Nat) (l : List Nat) (HN : Hid (n = l.length)) (w : World) (hn : n ≤ 1048576) (hc : Bytes w ao l) :
    Calls Try.prog 8 #[.slice ao n cap] w fun e w' => ∃ v, e = .returned v ∧ w'.ownsRow w.heap.size 5 1 v n (bv l) ∧ Below w.heap.size w w' := by
  cases ao with
  | some a => exact copy8_some a cap n l HN w hn hc
  | none =>
    refine copy8_none cap n l HN ?_ w
    cases l with
    | nil => rfl
    | cons x r =>
      obtain ⟨_, b, off, h, _⟩ := hc 0 (by simp)
      cases h

end Go.Proofs.Qxb6003731a
