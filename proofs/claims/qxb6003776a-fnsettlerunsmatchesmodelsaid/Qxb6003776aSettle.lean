/-
  'settleRuns' by its contract.
-/
import Derived.Test.Qxb6003776aRefs
import Derived.Deep.RegionHeld3
import Derived.Deep.AppendLies
namespace Go.Proofs.Qxb6003776a
open Go.RowKit

/-- What holds at the head of a round of settleRuns: the references from m on are settled. -/
def Settled (w wr : World) (gR n : Nat) (st en : Nat → Int) (ch : Nat → Nat) (sl : Nat → Bool) (dp : Nat → Int) (m : Nat) : Prop :=
  w.grownBy wr (some gR) ∧ ∃ re rm, Refs wr gR n st en ch re rm ∧ ∀ j, m ≤ j → j < n → re j = RE (joins st en sl n) dp n j ∧ rm j = RM (joins st en sl n) dp n j

theorem settled_step {w X : World} {gR n : Nat} {st en : Nat → Int} {ch : Nat → Nat} {sl : Nat → Bool} {dp re rm : Nat → Int} {i : Nat} (hG : w.grownBy X (some gR)) (hR : Refs X gR n st en ch re rm)
    (hdone : ∀ j, i + 1 ≤ j → j < n → re j = RE (joins st en sl n) dp n j ∧ rm j = RM (joins st en sl n) dp n j) (he : re i = RE (joins st en sl n) dp n i) (hm : rm i = RM (joins st en sl n) dp n i) : Settled w X gR n st en ch sl dp i := by
  refine ⟨hG, re, rm, hR, fun j h1 h2 => ?_⟩
  by_cases h : j = i
  · subst h; exact ⟨he, hm⟩
  · exact hdone j (by omega) h2

theorem grown_far {w Y W w' : World} {gR mk : Nat} (h1 : w.grownBy Y (some gR)) (h2 : Y.grownBy W none) (h3 : W.grownBy w' (some mk)) (hmk : w.heap.size ≤ mk) : w.grownBy w' (some gR) :=
  ⟨h3.os.trans (h2.os.trans h1.os), h3.tape.trans (h2.tape.trans h1.tape), h3.output.trans (h2.output.trans h1.output), Nat.le_trans h1.size (Nat.le_trans h2.size h3.size), fun k hk hne =>
    ((h3.block k (Nat.lt_of_lt_of_le hk (Nat.le_trans h1.size h2.size)) (by simp; omega)).trans (h2.block k (Nat.lt_of_lt_of_le hk h1.size) (by simp))).trans (h1.block k hk hne)⟩

theorem grownBy_drew2_alloc (w : World) (o : Obj) : w.grownBy (w.alloc o).drew.drew none :=
  have h := World.grownBy_alloc w o none
  ⟨h.os, h.tape, h.output, h.size, h.block⟩

theorem own_pos {dp : Nat → Int} {i : Nat} {d : Int} (hd : dp i = d) (h : 0 < d) : own dp i = (i : Int) := by unfold own; rw [hd, if_pos h]
theorem own_neg {dp : Nat → Int} {i : Nat} {d : Int} (hd : dp i = d) (h : d ≤ 0) : own dp i = -1 := by unfold own; rw [hd, if_neg (by omega)]

/-- The world behind the making of the mark, and the first mark stored. -/
theorem mid_facts {w W1 X : World} {gR n : Nat} {st en : Nat → Int} {ch : Nat → Nat} {dp re rm : Nat → Int} {i : Nat} {d : Int} (hd : dp i = d) (hG : w.grownBy W1 (some gR))
    (hR : Refs W1 gR n st en ch (upd re i ((i : Int) + 1)) (upd rm i (-1)))
    (hX : (0 < d ∧ (((W1.setCell ⟨gR, i * 5 + 3 + 1, none⟩ (.int .i32 (i : Int))).alloc (.cells (originCells d) 68)).alloc (.cells #[.pointer none, .int .i64 0, .int .i64 d] 68)).drew = X) ∨
      (d ≤ 0 ∧ ((W1.alloc (.cells (originCells d) 68)).alloc (.cells #[.pointer none, .int .i64 0, .int .i64 d] 68)).drew = X)) :
    w.grownBy X (some gR) ∧ Blk X (W1.heap.size + 1) #[.pointer none, .int .i64 0, .int .i64 d] 68 ∧ ∃ rm1, Refs X gR n st en ch (upd re i ((i : Int) + 1)) rm1 ∧ rm1 i = own dp i ∧ ∀ j, j ≠ i → rm1 j = rm j := by
  have blk : ∀ V : World, V.heap.size = W1.heap.size → Blk ((V.alloc (.cells (originCells d) 68)).alloc (.cells #[.pointer none, .int .i64 0, .int .i64 d] 68)).drew (W1.heap.size + 1) #[.pointer none, .int .i64 0, .int .i64 d] 68 := by
    intro V hV
    have h := heap_alloc_new (V.alloc (.cells (originCells d) 68)) (.cells #[.pointer none, .int .i64 0, .int .i64 d] 68)
    rw [World.size_alloc, hV] at h
    exact h
  rcases hX with ⟨h0, rfl⟩ | ⟨h0, rfl⟩
  · refine ⟨?_, blk _ (by simp), upd (upd rm i (-1)) i (i : Int), (((hR.setMark i _).alloc _).alloc _).drew, ?_, fun j hj => ?_⟩
    · exact grownBy_trans hG (grownBy_trans (grownBy_set _ _ _ _) (grownBy_trans (World.grownBy_alloc _ _ _) (grownBy_drew_alloc _ _ _)))
    · rw [upd_same, own_pos hd h0]
    · rw [upd_other _ _ _ _ hj, upd_other _ _ _ _ hj]
  · refine ⟨?_, blk _ rfl, upd rm i (-1), ((hR.alloc _).alloc _).drew, ?_, fun j hj => ?_⟩
    · exact grownBy_trans hG (grownBy_trans (World.grownBy_alloc _ _ _) (grownBy_drew_alloc _ _ _))
    · rw [upd_same, own_neg hd h0]
    · rw [upd_other _ _ _ _ hj]

set_option maxRecDepth 10000 in
set_option maxHeartbeats 4000000 in
theorem settle_any (gP gR n : Nat) (st en : Nat → Int) (ch : Nat → Nat) (sl : Nat → Bool) (dp re0 rm0 : Nat → Int) (w : World) (hn : n ≤ 65536) (hP : w.cell? ⟨gP, 4, none⟩ = some (.slice (some ⟨gR, 0, none⟩) n n)) (hPR : gP ≠ gR)
    (hR : Refs w gR n st en ch re0 rm0) (hC : Chunks w gR n ch sl dp) (hdp : ∀ j, -2147483648 ≤ dp j ∧ dp j ≤ 2147483647) :
    Calls Try.prog 27 #[.pointer (some ⟨gP, 0, none⟩)] w fun e w' => e = .returned (.tuple #[]) ∧ Settled w w' gR n st en ch sl dp 0 := by
  have HC : Hid (Chunks w gR n ch sl dp) := hC
  have HD : Hid (∀ j, -2147483648 ≤ dp j ∧ dp j ≤ 2147483647) := hdp
  have HP : Hid (w.cell? ⟨gP, 4, none⟩ = some (.slice (some ⟨gR, 0, none⟩) n n)) := hP
  have HPR : Hid (gP ≠ gR) := hPR
  have HS0 : Hid (Settled w w gR n st en ch sl dp n) := ⟨World.grownBy.refl _ _, re0, rm0, hR, fun j h1 h2 => by omega⟩
  clear hC hdp hR hPR
  go_enter Try.func27, Try.ntmps27
  go_wp2
  go_loopw [2] (fun i wr => ∃ m : Nat, m ≤ n ∧ i = .int .i64 ((m : Int) - 1) ∧ Settled w wr gR n st en ch sl dp m) (fun i _ => (intOf i + 1).toNat)
  case atStart => exact ⟨n, by omega, by go_num, HS0.out⟩
  case round =>
    clear HS0 hP
    obtain ⟨m, hm, rfl, hG, re, rm, hR, hdone⟩ := hrel
    match m, hm with
    | i + 1, hm =>
      have hi : i < n := by omega
      have hi2 : (i : Int) < (n : Int) := by omega
      have hPr : wr.cell? ⟨gP, 4, none⟩ = some (.slice (some ⟨gR, 0, none⟩) n n) := hG.cell HP.out (by simpa using HPR.out)
      have HCr : Hid (Chunks wr gR n ch sl dp) := HC.out.kept hG
      obtain ⟨a0, a1, a2, a3, a4⟩ := hR.cells i hi
      have f3 := hR.free (i * 5 + 3)
      have f4 := hR.free (i * 5 + 4)
      obtain ⟨W1, hW1⟩ : ∃ W, W = (wr.setCell ⟨gR, i * 5 + 3, none⟩ (.int .i32 ((i : Int) + 1))).setCell ⟨gR, i * 5 + 4, none⟩ (.int .i32 (-1)) := ⟨_, rfl⟩
      have hR1 : Refs W1 gR n st en ch (upd re i ((i : Int) + 1)) (upd rm i (-1)) := by rw [hW1]; exact (hR.setEnd i _).setMark i _
      have hG1 : wr.grownBy W1 (some gR) := by rw [hW1]; exact grownBy_trans (grownBy_set _ _ _ _) (grownBy_set _ _ _ _)
      have HW1 : Hid ((wr.setCell ⟨gR, i * 5 + 3, none⟩ (.int .i32 ((i : Int) + 1))).setCell ⟨gR, i * 5 + 4, none⟩ (.int .i32 (-1)) = W1) := hW1.symm
      have HDone : Hid (∀ j, i + 1 ≤ j → j < n → re j = RE (joins st en sl n) dp n j ∧ rm j = RM (joins st en sl n) dp n j) := hdone
      have HR1 : Hid (Refs W1 gR n st en ch (upd re i ((i : Int) + 1)) (upd rm i (-1))) := hR1
      have HG1 : Hid (wr.grownBy W1 (some gR)) := hG1
      have HG : Hid (w.grownBy wr (some gR)) := hG
      clear hW1 hR1 hG1 hdone hG hR
      go_wp2_with fail
      rw [HW1.out]
      have hK1 := (HCr.out.kept HG1.out i hi).2
      have P1 : W1.cell? ⟨gP, 4, none⟩ = some (.slice (some ⟨gR, 0, none⟩) n n) := HG1.out.cell hPr (by simpa using HPR.out)
      obtain ⟨b0, b1, b2, b3, b4⟩ := HR1.out.cells i hi
      have e4 := HR1.out.free (i * 5 + 4)
      have lR := HR1.out.lt
      have lP := World.block_lt_of_cell? W1 _ P1
      simp only at lP
      have HCK : Hid (Chunks W1 gR n ch sl dp) := HCr.out.kept HG1.out
      clear a0 a1 a2 a3 a4 f3 f4 hPr
      have hPR1 : ¬ gP = gR := HPR.out
      have hPR2 : ¬ gR = gP := fun e => HPR.out e.symm
      obtain ⟨d, HDi⟩ : ∃ d, Hid (dp i = d) := ⟨_, rfl⟩
      have hdd := HD.out i
      rw [HDi.out] at hK1 hdd
      refine (deep_any (ch i) (sl i) d W1 hK1 hdd).mono ?_
      rintro e w2 ⟨rfl, hw2⟩
      subst hw2
      clear hK1
      have HGW : Hid (w.grownBy W1 (some gR)) := grownBy_trans HG.out HG1.out
      by_cases hl : i + 1 = n
      · have HJ : Hid (joins st en sl n i = false) := by show _ = _; unfold joins; rw [decide_eq_false (by omega)]; rfl
        have HEq : Hid (i + 1 = n) := hl
        have hl1 : ((i : Int) + 1 == (n : Int)) = true := by simp; omega
        clear hl
        by_cases hd : 0 < d
        · have HX : Hid _ := mid_facts HDi.out HGW.out HR1.out (.inl ⟨hd, rfl⟩)
          go_wp2_with fail
          go_roundw
          case rel =>
            obtain ⟨g1, _, rm1, r1, o1, o2⟩ := HX.out
            exact ⟨i, by omega, rfl, settled_step g1 r1 (fun j h1 h2 => by rw [upd_other _ _ _ _ (by omega), o2 j (by omega)]; exact HDone.out j h1 h2) (by rw [upd_same, RE_not hi HJ.out]) (by rw [o1, RM_not hi HJ.out])⟩
          case measure => simp [intOf]
        · have hd' : d ≤ 0 := by omega
          clear hd
          have HX : Hid _ := mid_facts HDi.out HGW.out HR1.out (.inr ⟨hd', rfl⟩)
          go_wp2_with fail
          go_roundw
          case rel =>
            obtain ⟨g1, _, rm1, r1, o1, o2⟩ := HX.out
            exact ⟨i, by omega, rfl, settled_step g1 r1 (fun j h1 h2 => by rw [upd_other _ _ _ _ (by omega), o2 j (by omega)]; exact HDone.out j h1 h2) (by rw [upd_same, RE_not hi HJ.out]) (by rw [o1, RM_not hi HJ.out])⟩
          case measure => simp [intOf]
      · have hl1 : ((i : Int) + 1 == (n : Int)) = false := by simp; omega
        have hi3 : (i : Int) + 1 < (n : Int) := by omega
        have hin : i + 1 < n := by omega
        clear hl
        by_cases hd : 0 < d
        · obtain ⟨X, hX⟩ : ∃ X, (((W1.setCell ⟨gR, i * 5 + 3 + 1, none⟩ (.int .i32 (i : Int))).alloc (.cells (originCells d) 68)).alloc (.cells #[.pointer none, .int .i64 0, .int .i64 d] 68)).drew = X := ⟨_, rfl⟩
          have HM : Hid _ := mid_facts HDi.out HGW.out HR1.out (.inl ⟨hd, hX⟩)
          have HX : Hid ((((W1.setCell ⟨gR, i * 5 + 3 + 1, none⟩ (.int .i32 (i : Int))).alloc (.cells (originCells d) 68)).alloc (.cells #[.pointer none, .int .i64 0, .int .i64 d] 68)).drew = X) := hX
          clear hX
          go_wp2_with fail
          rw [HX.out]
          clear HX
          obtain ⟨gX, kX, rm1, rX, oX, oX2⟩ := HM.out
          have HGX : Hid (w.grownBy X (some gR)) := gX
          have HKX : Hid (Blk X (W1.heap.size + 1) #[.pointer none, .int .i64 0, .int .i64 d] 68) := kX
          have HRX : Hid (Refs X gR n st en ch (upd re i ((i : Int) + 1)) rm1) := rX
          have HOX : Hid (rm1 i = own dp i) := oX
          have HOX2 : Hid (∀ j, j ≠ i → rm1 j = rm j) := oX2
          have PX : X.cell? ⟨gP, 4, none⟩ = some (.slice (some ⟨gR, 0, none⟩) n n) := gX.cell HP.out (by simpa using HPR.out)
          have HCX : Hid (Chunks X gR n ch sl dp) := HC.out.kept gX
          obtain ⟨x0, x1, x2, x3, x4⟩ := rX.cells i hi
          obtain ⟨y0, y1, y2, y3, y4⟩ := rX.cells (i + 1) hin
          obtain ⟨z1, z2, z3⟩ := (HCX.out (i + 1) hin).2.cells
          have fX := rX.free (i * 5 + 3)
          have fX4 := rX.free (i * 5 + 4)
          obtain ⟨v3, H3⟩ : ∃ v, Hid (upd re i ((i : Int) + 1) (i + 1) = v) := ⟨_, rfl⟩
          obtain ⟨v4, H4⟩ : ∃ v, Hid (rm1 (i + 1) = v) := ⟨_, rfl⟩
          rw [H3.out] at y3
          rw [H4.out] at y4
          clear HM gX kX rX oX oX2 P1 b0 b1 b2 b3 b4 e4 lR lP HCK
          obtain ⟨sn, HSn⟩ : ∃ v, Hid (st (i + 1) = v) := ⟨_, rfl⟩
          obtain ⟨ei, HEi⟩ : ∃ v, Hid (en i = v) := ⟨_, rfl⟩
          obtain ⟨bn, HBn⟩ : ∃ v, Hid (sl (i + 1) = v) := ⟨_, rfl⟩
          rw [HSn.out] at y0
          rw [HEi.out] at x1
          rw [HBn.out] at z3
          have HJe : Hid (joins st en sl n i = ((sn == ei) && bn)) := by show _ = _; unfold joins; rw [decide_eq_true hin, HSn.out, HEi.out, HBn.out]; simp
          by_cases hse : sn = ei
          · have hg : (sn == ei) = true := by simp [hse]
            have HSE : Hid (sn = ei) := hse
            clear hse
            cases bn with
            | false =>
              have HJ : Hid (joins st en sl n i = false) := by show _ = _; rw [HJe.out]; simp
              go_quiet (fail)
              go_wp2_with fail
              go_roundw
              case rel =>
                exact ⟨i, by omega, rfl, settled_step (grownBy_trans HGX.out (grown_drewN _ _ _)) (HRX.out.drewN _) (fun j h1 h2 => by rw [upd_other _ _ _ _ (by omega), HOX2.out j (by omega)]; exact HDone.out j h1 h2) (by rw [upd_same, RE_not hi HJ.out]) (by rw [HOX.out, RM_not hi HJ.out])⟩
              case measure => simp [intOf]
            | true =>
              have HJ : Hid (joins st en sl n i = true) := by show _ = _; rw [HJe.out, hg]; rfl
              go_quiet (fail)
              go_wp2_with fail
              obtain ⟨Y, hY⟩ : ∃ Y, (X.drewN nq).setCell ⟨gR, i * 5 + 3, none⟩ (.int .i32 v3) = Y := ⟨_, rfl⟩
              rw [hY]
              have gY : w.grownBy Y (some gR) := by rw [← hY]; exact grownBy_trans (grownBy_trans HGX.out (grown_drewN _ _ _)) (grownBy_set _ _ _ _)
              have rY : Refs Y gR n st en ch (upd (upd re i ((i : Int) + 1)) i v3) rm1 := by rw [← hY]; exact (HRX.out.drewN _).setEnd i v3
              have hmR : W1.heap.size + 1 ≠ gR := fun e => by
                obtain ⟨cur, h0, _⟩ := HRX.out
                rw [← e] at h0
                have h1 := HKX.out.symm.trans h0
                simp at h1
              have kY : Blk Y (W1.heap.size + 1) #[.pointer none, .int .i64 0, .int .i64 d] 68 := by
                rw [← hY]
                exact (heap_setCell_other (X.drewN nq) ⟨gR, i * 5 + 3, none⟩ _ _ hmR).trans HKX.out
              clear hY x0 x1 x2 x3 x4 y0 y1 y2 y3 y4 z1 z2 z3 fX fX4 PX hg
              obtain ⟨mk, HMk⟩ : ∃ k, Hid (W1.heap.size + 1 = k) := ⟨_, rfl⟩
              rw [HMk.out] at kY hmR
              have PY : Y.cell? ⟨gP, 4, none⟩ = some (.slice (some ⟨gR, 0, none⟩) n n) := gY.cell HP.out (by simpa using HPR.out)
              have HCY : Hid (Chunks Y gR n ch sl dp) := HC.out.kept gY
              have y4 := (rY.cells (i + 1) hin).2.2.2.2
              rw [H4.out] at y4
              have fY4 := rY.free (i * 5 + 4)
              have x4 := (rY.cells i hi).2.2.2.2
              have HGY : Hid (w.grownBy Y (some gR)) := gY
              have HRY : Hid (Refs Y gR n st en ch (upd (upd re i ((i : Int) + 1)) i v3) rm1) := rY
              have HKY : Hid (Blk Y mk #[.pointer none, .int .i64 0, .int .i64 d] 68) := kY
              have HmR : Hid (mk ≠ gR) := hmR
              have H34 : Hid (v3 = RE (joins st en sl n) dp n i ∧ v4 = RM (joins st en sl n) dp n (i + 1)) := by
                have h := HDone.out (i + 1) (Nat.le_refl _) hin
                refine ⟨?_, ?_⟩
                · rw [← H3.out, upd_other _ _ _ _ (by omega), h.1, RE_yes hi HJ.out]
                · rw [← H4.out, HOX2.out _ (by omega), h.2]
              clear gY rY kY hmR
              rw [HMk.out]
              by_cases h4 : v4 < 0
              · have hg4 : decide ((0 : Int) ≤ v4) = false := by simp; omega
                go_quiet (fail)
                go_wp2_with fail
                go_roundw
                case rel =>
                  exact ⟨i, by omega, rfl, settled_step (grownBy_trans HGY.out (grown_drewN _ _ _)) (HRY.out.drewN _) (fun j h1 h2 => by rw [upd_other _ _ _ _ (by omega), upd_other _ _ _ _ (by omega), HOX2.out j (by omega)]; exact HDone.out j h1 h2) (by rw [upd_same]; exact H34.out.1) (by rw [HOX.out, RM_yes_none hi HJ.out (by rw [← H34.out.2]; exact h4)])⟩
                case measure => simp [intOf]
              · have hg4 : (0 : Int) ≤ v4 := by omega
                have hrg := RM_range (jn := joins st en sl n) (dp := dp) (n := n) _ (i + 1) rfl hin
                rw [← H34.out.2] at hrg
                obtain ⟨rq, rfl⟩ : ∃ rq : Nat, v4 = rq := ⟨v4.toNat, by omega⟩
                have hrq : rq < n := by omega
                have hrq2 : (rq : Int) < (n : Int) := by omega
                clear hrg h4
                obtain ⟨dq, HDq⟩ : ∃ d, Hid (dp rq = d) := ⟨_, rfl⟩
                obtain ⟨sq, HSq⟩ : ∃ d, Hid (sl rq = d) := ⟨_, rfl⟩
                have hkq := (HCY.out rq hrq).2
                rw [HDq.out, HSq.out] at hkq
                have hdq := HD.out rq
                rw [HDq.out] at hdq
                have c2 := (HRY.out.cells rq hrq).2.2.1
                have lR := HRY.out.lt
                have lP := World.block_lt_of_cell? Y _ PY
                simp only at lP
                have lK := blk_lt HKY.out
                have HKQ : Hid (IsChunk Y (ch rq) sq dq) := hkq
                clear hkq
                have HKZ : Hid (Blk ((Y.alloc (.cells (originCells dq) 68)).drew.drew) mk #[.pointer none, .int .i64 0, .int .i64 d] 68) := (Below.heap_alloc Y _ mk lK).trans HKY.out
                have HmkS : Hid (w.heap.size ≤ mk) := by have h := HGW.out.size; rw [← HMk.out]; show _ ≤ _; omega
                have HmP : Hid (gP ≠ mk) := fun e => by
                  have h1 := PY
                  rw [e, cell_of_row Y mk 4 _ _ _ HKY.out] at h1
                  simp at h1
                by_cases hdeep : d < dq
                · have hdd3 : decide (d < dq) = true := decide_eq_true hdeep
                  go_region_held3 (fun w' => w'.cell? ⟨gR, (i + 1) * 5 + 3 + 1, none⟩ = some (.int .i32 (rq : Int)) ∧ w'.cell? ⟨gP, 4, none⟩ = some (.slice (some ⟨gR, 0, none⟩) n n) ∧ w'.cell? ⟨gR, rq * 5 + 2, none⟩ = some (.pointer (some ⟨ch rq, 0, none⟩)))
                    (first
                      | go_keep
                      | (go_split_ands
                         refine ⟨?_, ?_, ?_⟩
                         · (rw [hgm.cell_far _ (by simp; omega) (by simpa using Ne.symm HmR.out)]; assumption)
                         · (rw [hgm.cell_far _ (by simp; omega) (by simpa using HmP.out)]; assumption)
                         · (rw [hgm.cell_far _ (by simp; omega) (by simpa using Ne.symm HmR.out)]; assumption)))
                    (first
                      | (go_at_call 30; refine (deep_any (ch rq) sq dq Y.drew HKQ.out hdq).mono ?_; rintro e w' ⟨rfl, rfl⟩)
                      | (go_at_call 31; refine (meet_any mk d dq ((Y.alloc (.cells (originCells dq) 68)).drew.drew) (.pointer none) (.int .i64 0) HKZ.out).mono ?_; rintro e w' ⟨rfl, hgm⟩))
                  have gZ : w.grownBy w' (some gR) := grown_far HGY.out (grownBy_drew2_alloc _ _) hgm HmkS.out
                  have rZ : Refs w' gR n st en ch (upd (upd re i ((i : Int) + 1)) i v3) rm1 := HRY.out.kept ((hgm.block gR (by simp; omega) (by simpa using Ne.symm HmR.out)).trans (Below.heap_alloc Y _ gR lR))
                  have y4 := (rZ.cells (i + 1) hin).2.2.2.2
                  rw [H4.out] at y4
                  have fZ := rZ.free (i * 5 + 4)
                  have x4 := (rZ.cells i hi).2.2.2.2
                  have HGZ : Hid (w.grownBy w' (some gR)) := gZ
                  have HRZ : Hid (Refs w' gR n st en ch (upd (upd re i ((i : Int) + 1)) i v3) rm1) := rZ
                  clear gZ rZ hgm
                  go_wp2
                  go_roundw
                  case rel =>
                    exact ⟨i, by omega, rfl, settled_step (grownBy_trans HGZ.out (grownBy_set _ _ _ _)) (HRZ.out.setMark i _) (fun j h1 h2 => by rw [upd_other _ _ _ _ (by omega), upd_other _ _ _ _ (by omega), upd_other _ _ _ _ (by omega), HOX2.out j (by omega)]; exact HDone.out j h1 h2) (by rw [upd_same]; exact H34.out.1) (by rw [upd_same, RM_yes_deeper hi HJ.out (by rw [← H34.out.2]; exact hg4) (by rw [← H34.out.2, HDi.out]; simpa [HDq.out] using hdeep)]; exact H34.out.2)⟩
                  case measure => simp [intOf]
                · have hdd3 : decide (d < dq) = false := decide_eq_false hdeep
                  go_region_held3 (fun w' => w'.cell? ⟨gR, (i + 1) * 5 + 3 + 1, none⟩ = some (.int .i32 (rq : Int)) ∧ w'.cell? ⟨gP, 4, none⟩ = some (.slice (some ⟨gR, 0, none⟩) n n) ∧ w'.cell? ⟨gR, rq * 5 + 2, none⟩ = some (.pointer (some ⟨ch rq, 0, none⟩)))
                    (first
                      | go_keep
                      | (go_split_ands
                         refine ⟨?_, ?_, ?_⟩
                         · (rw [hgm.cell_far _ (by simp; omega) (by simpa using Ne.symm HmR.out)]; assumption)
                         · (rw [hgm.cell_far _ (by simp; omega) (by simpa using HmP.out)]; assumption)
                         · (rw [hgm.cell_far _ (by simp; omega) (by simpa using Ne.symm HmR.out)]; assumption)))
                    (first
                      | (go_at_call 30; refine (deep_any (ch rq) sq dq Y.drew HKQ.out hdq).mono ?_; rintro e w' ⟨rfl, rfl⟩)
                      | (go_at_call 31; refine (meet_any mk d dq ((Y.alloc (.cells (originCells dq) 68)).drew.drew) (.pointer none) (.int .i64 0) HKZ.out).mono ?_; rintro e w' ⟨rfl, hgm⟩))
                  have gZ : w.grownBy w' (some gR) := grown_far HGY.out (grownBy_drew2_alloc _ _) hgm HmkS.out
                  have rZ : Refs w' gR n st en ch (upd (upd re i ((i : Int) + 1)) i v3) rm1 := HRY.out.kept ((hgm.block gR (by simp; omega) (by simpa using Ne.symm HmR.out)).trans (Below.heap_alloc Y _ gR lR))
                  have y4 := (rZ.cells (i + 1) hin).2.2.2.2
                  rw [H4.out] at y4
                  have fZ := rZ.free (i * 5 + 4)
                  have x4 := (rZ.cells i hi).2.2.2.2
                  have HGZ : Hid (w.grownBy w' (some gR)) := gZ
                  have HRZ : Hid (Refs w' gR n st en ch (upd (upd re i ((i : Int) + 1)) i v3) rm1) := rZ
                  clear gZ rZ hgm
                  go_wp2
                  go_roundw
                  case rel =>
                    exact ⟨i, by omega, rfl, settled_step HGZ.out HRZ.out (fun j h1 h2 => by rw [upd_other _ _ _ _ (by omega), upd_other _ _ _ _ (by omega), HOX2.out j (by omega)]; exact HDone.out j h1 h2) (by rw [upd_same]; exact H34.out.1) (by rw [HOX.out, RM_yes_not hi HJ.out (by rw [← H34.out.2, HDi.out]; simpa [HDq.out] using hdeep)])⟩
                  case measure => simp [intOf]
          · have hg : (sn == ei) = false := by simp [hse]
            have HJ : Hid (joins st en sl n i = false) := by show _ = _; rw [HJe.out, hg]; rfl
            clear hse
            go_quiet (fail)
            go_wp2_with fail
            go_roundw
            case rel =>
              exact ⟨i, by omega, rfl, settled_step (grownBy_trans HGX.out (grown_drewN _ _ _)) (HRX.out.drewN _) (fun j h1 h2 => by rw [upd_other _ _ _ _ (by omega), HOX2.out j (by omega)]; exact HDone.out j h1 h2) (by rw [upd_same, RE_not hi HJ.out]) (by rw [HOX.out, RM_not hi HJ.out])⟩
            case measure => simp [intOf]
        · have hd' : d ≤ 0 := by omega
          clear hd
          obtain ⟨X, hX⟩ : ∃ X, ((W1.alloc (.cells (originCells d) 68)).alloc (.cells #[.pointer none, .int .i64 0, .int .i64 d] 68)).drew = X := ⟨_, rfl⟩
          have HM : Hid _ := mid_facts HDi.out HGW.out HR1.out (.inr ⟨hd', hX⟩)
          have HX : Hid (((W1.alloc (.cells (originCells d) 68)).alloc (.cells #[.pointer none, .int .i64 0, .int .i64 d] 68)).drew = X) := hX
          clear hX
          go_wp2_with fail
          rw [HX.out]
          clear HX
          obtain ⟨gX, kX, rm1, rX, oX, oX2⟩ := HM.out
          have HGX : Hid (w.grownBy X (some gR)) := gX
          have HKX : Hid (Blk X (W1.heap.size + 1) #[.pointer none, .int .i64 0, .int .i64 d] 68) := kX
          have HRX : Hid (Refs X gR n st en ch (upd re i ((i : Int) + 1)) rm1) := rX
          have HOX : Hid (rm1 i = own dp i) := oX
          have HOX2 : Hid (∀ j, j ≠ i → rm1 j = rm j) := oX2
          have PX : X.cell? ⟨gP, 4, none⟩ = some (.slice (some ⟨gR, 0, none⟩) n n) := gX.cell HP.out (by simpa using HPR.out)
          have HCX : Hid (Chunks X gR n ch sl dp) := HC.out.kept gX
          obtain ⟨x0, x1, x2, x3, x4⟩ := rX.cells i hi
          obtain ⟨y0, y1, y2, y3, y4⟩ := rX.cells (i + 1) hin
          obtain ⟨z1, z2, z3⟩ := (HCX.out (i + 1) hin).2.cells
          have fX := rX.free (i * 5 + 3)
          have fX4 := rX.free (i * 5 + 4)
          obtain ⟨v3, H3⟩ : ∃ v, Hid (upd re i ((i : Int) + 1) (i + 1) = v) := ⟨_, rfl⟩
          obtain ⟨v4, H4⟩ : ∃ v, Hid (rm1 (i + 1) = v) := ⟨_, rfl⟩
          rw [H3.out] at y3
          rw [H4.out] at y4
          clear HM gX kX rX oX oX2 P1 b0 b1 b2 b3 b4 e4 lR lP HCK
          obtain ⟨sn, HSn⟩ : ∃ v, Hid (st (i + 1) = v) := ⟨_, rfl⟩
          obtain ⟨ei, HEi⟩ : ∃ v, Hid (en i = v) := ⟨_, rfl⟩
          obtain ⟨bn, HBn⟩ : ∃ v, Hid (sl (i + 1) = v) := ⟨_, rfl⟩
          rw [HSn.out] at y0
          rw [HEi.out] at x1
          rw [HBn.out] at z3
          have HJe : Hid (joins st en sl n i = ((sn == ei) && bn)) := by show _ = _; unfold joins; rw [decide_eq_true hin, HSn.out, HEi.out, HBn.out]; simp
          by_cases hse : sn = ei
          · have hg : (sn == ei) = true := by simp [hse]
            have HSE : Hid (sn = ei) := hse
            clear hse
            cases bn with
            | false =>
              have HJ : Hid (joins st en sl n i = false) := by show _ = _; rw [HJe.out]; simp
              go_quiet (fail)
              go_wp2_with fail
              go_roundw
              case rel =>
                exact ⟨i, by omega, rfl, settled_step (grownBy_trans HGX.out (grown_drewN _ _ _)) (HRX.out.drewN _) (fun j h1 h2 => by rw [upd_other _ _ _ _ (by omega), HOX2.out j (by omega)]; exact HDone.out j h1 h2) (by rw [upd_same, RE_not hi HJ.out]) (by rw [HOX.out, RM_not hi HJ.out])⟩
              case measure => simp [intOf]
            | true =>
              have HJ : Hid (joins st en sl n i = true) := by show _ = _; rw [HJe.out, hg]; rfl
              go_quiet (fail)
              go_wp2_with fail
              obtain ⟨Y, hY⟩ : ∃ Y, (X.drewN nq).setCell ⟨gR, i * 5 + 3, none⟩ (.int .i32 v3) = Y := ⟨_, rfl⟩
              rw [hY]
              have gY : w.grownBy Y (some gR) := by rw [← hY]; exact grownBy_trans (grownBy_trans HGX.out (grown_drewN _ _ _)) (grownBy_set _ _ _ _)
              have rY : Refs Y gR n st en ch (upd (upd re i ((i : Int) + 1)) i v3) rm1 := by rw [← hY]; exact (HRX.out.drewN _).setEnd i v3
              have hmR : W1.heap.size + 1 ≠ gR := fun e => by
                obtain ⟨cur, h0, _⟩ := HRX.out
                rw [← e] at h0
                have h1 := HKX.out.symm.trans h0
                simp at h1
              have kY : Blk Y (W1.heap.size + 1) #[.pointer none, .int .i64 0, .int .i64 d] 68 := by
                rw [← hY]
                exact (heap_setCell_other (X.drewN nq) ⟨gR, i * 5 + 3, none⟩ _ _ hmR).trans HKX.out
              clear hY x0 x1 x2 x3 x4 y0 y1 y2 y3 y4 z1 z2 z3 fX fX4 PX hg
              obtain ⟨mk, HMk⟩ : ∃ k, Hid (W1.heap.size + 1 = k) := ⟨_, rfl⟩
              rw [HMk.out] at kY hmR
              have PY : Y.cell? ⟨gP, 4, none⟩ = some (.slice (some ⟨gR, 0, none⟩) n n) := gY.cell HP.out (by simpa using HPR.out)
              have HCY : Hid (Chunks Y gR n ch sl dp) := HC.out.kept gY
              have y4 := (rY.cells (i + 1) hin).2.2.2.2
              rw [H4.out] at y4
              have fY4 := rY.free (i * 5 + 4)
              have x4 := (rY.cells i hi).2.2.2.2
              have HGY : Hid (w.grownBy Y (some gR)) := gY
              have HRY : Hid (Refs Y gR n st en ch (upd (upd re i ((i : Int) + 1)) i v3) rm1) := rY
              have HKY : Hid (Blk Y mk #[.pointer none, .int .i64 0, .int .i64 d] 68) := kY
              have HmR : Hid (mk ≠ gR) := hmR
              have H34 : Hid (v3 = RE (joins st en sl n) dp n i ∧ v4 = RM (joins st en sl n) dp n (i + 1)) := by
                have h := HDone.out (i + 1) (Nat.le_refl _) hin
                refine ⟨?_, ?_⟩
                · rw [← H3.out, upd_other _ _ _ _ (by omega), h.1, RE_yes hi HJ.out]
                · rw [← H4.out, HOX2.out _ (by omega), h.2]
              clear gY rY kY hmR
              rw [HMk.out]
              by_cases h4 : v4 < 0
              · have hg4 : decide ((0 : Int) ≤ v4) = false := by simp; omega
                go_quiet (fail)
                go_wp2_with fail
                go_roundw
                case rel =>
                  exact ⟨i, by omega, rfl, settled_step (grownBy_trans HGY.out (grown_drewN _ _ _)) (HRY.out.drewN _) (fun j h1 h2 => by rw [upd_other _ _ _ _ (by omega), upd_other _ _ _ _ (by omega), HOX2.out j (by omega)]; exact HDone.out j h1 h2) (by rw [upd_same]; exact H34.out.1) (by rw [HOX.out, RM_yes_none hi HJ.out (by rw [← H34.out.2]; exact h4)])⟩
                case measure => simp [intOf]
              · have hg4 : (0 : Int) ≤ v4 := by omega
                have hrg := RM_range (jn := joins st en sl n) (dp := dp) (n := n) _ (i + 1) rfl hin
                rw [← H34.out.2] at hrg
                obtain ⟨rq, rfl⟩ : ∃ rq : Nat, v4 = rq := ⟨v4.toNat, by omega⟩
                have hrq : rq < n := by omega
                have hrq2 : (rq : Int) < (n : Int) := by omega
                clear hrg h4
                obtain ⟨dq, HDq⟩ : ∃ d, Hid (dp rq = d) := ⟨_, rfl⟩
                obtain ⟨sq, HSq⟩ : ∃ d, Hid (sl rq = d) := ⟨_, rfl⟩
                have hkq := (HCY.out rq hrq).2
                rw [HDq.out, HSq.out] at hkq
                have hdq := HD.out rq
                rw [HDq.out] at hdq
                have c2 := (HRY.out.cells rq hrq).2.2.1
                have lR := HRY.out.lt
                have lP := World.block_lt_of_cell? Y _ PY
                simp only at lP
                have lK := blk_lt HKY.out
                have HKQ : Hid (IsChunk Y (ch rq) sq dq) := hkq
                clear hkq
                have HKZ : Hid (Blk ((Y.alloc (.cells (originCells dq) 68)).drew.drew) mk #[.pointer none, .int .i64 0, .int .i64 d] 68) := (Below.heap_alloc Y _ mk lK).trans HKY.out
                have HmkS : Hid (w.heap.size ≤ mk) := by have h := HGW.out.size; rw [← HMk.out]; show _ ≤ _; omega
                have HmP : Hid (gP ≠ mk) := fun e => by
                  have h1 := PY
                  rw [e, cell_of_row Y mk 4 _ _ _ HKY.out] at h1
                  simp at h1
                by_cases hdeep : d < dq
                · have hdd3 : decide (d < dq) = true := decide_eq_true hdeep
                  go_region_held3 (fun w' => w'.cell? ⟨gR, (i + 1) * 5 + 3 + 1, none⟩ = some (.int .i32 (rq : Int)) ∧ w'.cell? ⟨gP, 4, none⟩ = some (.slice (some ⟨gR, 0, none⟩) n n) ∧ w'.cell? ⟨gR, rq * 5 + 2, none⟩ = some (.pointer (some ⟨ch rq, 0, none⟩)))
                    (first
                      | go_keep
                      | (go_split_ands
                         refine ⟨?_, ?_, ?_⟩
                         · (rw [hgm.cell_far _ (by simp; omega) (by simpa using Ne.symm HmR.out)]; assumption)
                         · (rw [hgm.cell_far _ (by simp; omega) (by simpa using HmP.out)]; assumption)
                         · (rw [hgm.cell_far _ (by simp; omega) (by simpa using Ne.symm HmR.out)]; assumption)))
                    (first
                      | (go_at_call 30; refine (deep_any (ch rq) sq dq Y.drew HKQ.out hdq).mono ?_; rintro e w' ⟨rfl, rfl⟩)
                      | (go_at_call 31; refine (meet_any mk d dq ((Y.alloc (.cells (originCells dq) 68)).drew.drew) (.pointer none) (.int .i64 0) HKZ.out).mono ?_; rintro e w' ⟨rfl, hgm⟩))
                  have gZ : w.grownBy w' (some gR) := grown_far HGY.out (grownBy_drew2_alloc _ _) hgm HmkS.out
                  have rZ : Refs w' gR n st en ch (upd (upd re i ((i : Int) + 1)) i v3) rm1 := HRY.out.kept ((hgm.block gR (by simp; omega) (by simpa using Ne.symm HmR.out)).trans (Below.heap_alloc Y _ gR lR))
                  have y4 := (rZ.cells (i + 1) hin).2.2.2.2
                  rw [H4.out] at y4
                  have fZ := rZ.free (i * 5 + 4)
                  have x4 := (rZ.cells i hi).2.2.2.2
                  have HGZ : Hid (w.grownBy w' (some gR)) := gZ
                  have HRZ : Hid (Refs w' gR n st en ch (upd (upd re i ((i : Int) + 1)) i v3) rm1) := rZ
                  clear gZ rZ hgm
                  go_wp2
                  go_roundw
                  case rel =>
                    exact ⟨i, by omega, rfl, settled_step (grownBy_trans HGZ.out (grownBy_set _ _ _ _)) (HRZ.out.setMark i _) (fun j h1 h2 => by rw [upd_other _ _ _ _ (by omega), upd_other _ _ _ _ (by omega), upd_other _ _ _ _ (by omega), HOX2.out j (by omega)]; exact HDone.out j h1 h2) (by rw [upd_same]; exact H34.out.1) (by rw [upd_same, RM_yes_deeper hi HJ.out (by rw [← H34.out.2]; exact hg4) (by rw [← H34.out.2, HDi.out]; simpa [HDq.out] using hdeep)]; exact H34.out.2)⟩
                  case measure => simp [intOf]
                · have hdd3 : decide (d < dq) = false := decide_eq_false hdeep
                  go_region_held3 (fun w' => w'.cell? ⟨gR, (i + 1) * 5 + 3 + 1, none⟩ = some (.int .i32 (rq : Int)) ∧ w'.cell? ⟨gP, 4, none⟩ = some (.slice (some ⟨gR, 0, none⟩) n n) ∧ w'.cell? ⟨gR, rq * 5 + 2, none⟩ = some (.pointer (some ⟨ch rq, 0, none⟩)))
                    (first
                      | go_keep
                      | (go_split_ands
                         refine ⟨?_, ?_, ?_⟩
                         · (rw [hgm.cell_far _ (by simp; omega) (by simpa using Ne.symm HmR.out)]; assumption)
                         · (rw [hgm.cell_far _ (by simp; omega) (by simpa using HmP.out)]; assumption)
                         · (rw [hgm.cell_far _ (by simp; omega) (by simpa using Ne.symm HmR.out)]; assumption)))
                    (first
                      | (go_at_call 30; refine (deep_any (ch rq) sq dq Y.drew HKQ.out hdq).mono ?_; rintro e w' ⟨rfl, rfl⟩)
                      | (go_at_call 31; refine (meet_any mk d dq ((Y.alloc (.cells (originCells dq) 68)).drew.drew) (.pointer none) (.int .i64 0) HKZ.out).mono ?_; rintro e w' ⟨rfl, hgm⟩))
                  have gZ : w.grownBy w' (some gR) := grown_far HGY.out (grownBy_drew2_alloc _ _) hgm HmkS.out
                  have rZ : Refs w' gR n st en ch (upd (upd re i ((i : Int) + 1)) i v3) rm1 := HRY.out.kept ((hgm.block gR (by simp; omega) (by simpa using Ne.symm HmR.out)).trans (Below.heap_alloc Y _ gR lR))
                  have y4 := (rZ.cells (i + 1) hin).2.2.2.2
                  rw [H4.out] at y4
                  have fZ := rZ.free (i * 5 + 4)
                  have x4 := (rZ.cells i hi).2.2.2.2
                  have HGZ : Hid (w.grownBy w' (some gR)) := gZ
                  have HRZ : Hid (Refs w' gR n st en ch (upd (upd re i ((i : Int) + 1)) i v3) rm1) := rZ
                  clear gZ rZ hgm
                  go_wp2
                  go_roundw
                  case rel =>
                    exact ⟨i, by omega, rfl, settled_step HGZ.out HRZ.out (fun j h1 h2 => by rw [upd_other _ _ _ _ (by omega), upd_other _ _ _ _ (by omega), HOX2.out j (by omega)]; exact HDone.out j h1 h2) (by rw [upd_same]; exact H34.out.1) (by rw [HOX.out, RM_yes_not hi HJ.out (by rw [← H34.out.2, HDi.out]; simpa [HDq.out] using hdeep)])⟩
                  case measure => simp [intOf]
          · have hg : (sn == ei) = false := by simp [hse]
            have HJ : Hid (joins st en sl n i = false) := by show _ = _; rw [HJe.out, hg]; rfl
            clear hse
            go_quiet (fail)
            go_wp2_with fail
            go_roundw
            case rel =>
              exact ⟨i, by omega, rfl, settled_step (grownBy_trans HGX.out (grown_drewN _ _ _)) (HRX.out.drewN _) (fun j h1 h2 => by rw [upd_other _ _ _ _ (by omega), HOX2.out j (by omega)]; exact HDone.out j h1 h2) (by rw [upd_same, RE_not hi HJ.out]) (by rw [HOX.out, RM_not hi HJ.out])⟩
            case measure => simp [intOf]
    | 0, hm =>
      go_wp2
      go_end0
      exact ⟨rfl, hG, re, rm, hR, hdone⟩

/-- 'ZZSettleRuns' the same. -/
theorem zsettle_any (gP gR n : Nat) (st en : Nat → Int) (ch : Nat → Nat) (sl : Nat → Bool) (dp re0 rm0 : Nat → Int) (w : World) (hn : n ≤ 65536) (hP : w.cell? ⟨gP, 4, none⟩ = some (.slice (some ⟨gR, 0, none⟩) n n)) (hPR : gP ≠ gR)
    (hR : Refs w gR n st en ch re0 rm0) (hC : Chunks w gR n ch sl dp) (hdp : ∀ j, -2147483648 ≤ dp j ∧ dp j ≤ 2147483647) :
    Calls Try.prog 13 #[.pointer (some ⟨gP, 0, none⟩)] w fun e w' => e = .returned (.tuple #[]) ∧ Settled w w' gR n st en ch sl dp 0 := by
  go_enter Try.func13, Try.ntmps13
  go_wp2_with fail
  refine (settle_any gP gR n st en ch sl dp re0 rm0 w hn hP hPR hR hC hdp).mono ?_
  rintro e w' ⟨rfl, h⟩
  go_wp2_with fail
  go_end0
  exact ⟨rfl, h⟩
end Go.Proofs.Qxb6003776a
