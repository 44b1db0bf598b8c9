/-
  'FnSettleRunsMatchesModel': the walk.
-/
import Derived.Test.Qxb6003776aRow
import Derived.BigRegion
namespace Go.Proofs.Qxb6003776a
open Go.RowKit

theorem Try.info34 : (Try.prog.info? 34).map (fun i => (i.zero, i.size, i.bytes)) = some (some (.agg #[.int .i64 0, .int .i64 0, .pointer none, .int .i32 0, .int .i32 0]), 5, 32) := by kernel_rfl

theorem zz7_any (a0 a1 a2 a3 : Option Addr) (n0 n1 n2 n3 c0 c1 c2 c3 : Nat) (w : World) (hn : n0 + n1 + n2 + n3 ≤ 1048576) :
    Calls Try.prog 7 #[.slice a0 n0 c0, .slice a1 n1 c1, .slice a2 n2 c2, .slice a3 n3 c3] w fun e w' => e = .returned (.bool true) ∧ w' = w := by
  go_enter Try.func7, Try.ntmps7
  go_wp2
  go_ret
  exact ⟨rfl, rfl⟩

theorem refsTo_owns {w : World} {base : Nat} {g n : Nat} {xs : List Value} {st en : Nat → Int} {ch : Nat → Nat} (h : w.ownsRow base 34 5 (.slice (some ⟨g, 0, none⟩) n n) n xs) : RefsTo w g n 0 st en ch := by
  rcases h.2 with ⟨h', _⟩ | ⟨g', cap', cur, h', _, hg, _, _, hs, _⟩
  · simp at h'
  · simp only [Value.slice.injEq, Option.some.injEq, Addr.mk.injEq, and_true, true_and] at h'
    obtain ⟨rfl, rfl⟩ := h'
    exact ⟨cur, hg, hs, fun j hj => absurd hj (by omega)⟩

/-- The first k references are made. -/
def Made (w5 wr : World) (gR n : Nat) (st en : Nat → Int) (sl : Nat → Bool) (dp : Nat → Int) (k : Nat) : Prop :=
  w5.grownBy wr (some gR) ∧ ∃ ch, RefsTo wr gR n k st en ch ∧ ∀ j, j < k → ch j ≠ gR ∧ IsChunk wr (ch j) (sl j) (dp j)

theorem made_alloc {w5 wr W : World} {gR n : Nat} {st en : Nat → Int} {sl : Nat → Bool} {dp : Nat → Int} {k : Nat} {ch : Nat → Nat} (hG : w5.grownBy wr (some gR)) (hW : wr.grownBy W (some gR)) (hs : W.heap.size = wr.heap.size) (hgR : gR < wr.heap.size)
    (hR : RefsTo W gR n (k + 1) st en (fun j => if j = k then wr.heap.size else ch j)) (hch : ∀ j, j < k → ch j ≠ gR ∧ IsChunk wr (ch j) (sl j) (dp j)) (o2 : Obj) :
    Made w5 ((W.alloc (.cells (chunkCells (sl k) (dp k)) 62)).alloc o2).drew gR n st en sl dp (k + 1) := by
  refine ⟨grownBy_trans (grownBy_trans hG hW) (grownBy_trans (World.grownBy_alloc _ _ _) (grownBy_drew_alloc _ _ _)), _, ((hR.alloc _).alloc _).drew, fun j hj => ?_⟩
  by_cases hjk : j = k
  · subst hjk
    simp only [if_true]
    refine ⟨by omega, ?_⟩
    have h := heap_alloc_new W (.cells (chunkCells (sl j) (dp j)) 62)
    have h2 := Below.heap_alloc (W.alloc (.cells (chunkCells (sl j) (dp j)) 62)) o2 W.heap.size (by simp)
    rw [hs] at h h2
    exact h2.trans h
  · simp only [if_neg hjk]
    obtain ⟨h1, h2⟩ := hch j (by omega)
    refine ⟨h1, ?_⟩
    have hlt : ch j < wr.heap.size := blk_lt h2
    have e1 := Below.heap_alloc (W.alloc (.cells (chunkCells (sl k) (dp k)) 62)) o2 (ch j) (by simp; omega)
    have e2 := Below.heap_alloc W (.cells (chunkCells (sl k) (dp k)) 62) (ch j) (by omega)
    have e3 := hW.block (ch j) hlt (by simpa using h1)
    exact ((e1.trans e2).trans e3).trans h2

/-- What stands ahead of settleRuns. -/
theorem part_facts {wr : World} {gR n : Nat} {st en : Nat → Int} {sl : Nat → Bool} {dp : Nat → Int} {ch : Nat → Nat} (hR : RefsTo wr gR n n st en ch) (hch : ∀ j, j < n → ch j ≠ gR ∧ IsChunk wr (ch j) (sl j) (dp j)) (c : Array Value) (v : Value) (hc : c[4]? = some v) :
    (wr.alloc (.cells c 39)).cell? ⟨wr.heap.size, 4, none⟩ = some v ∧ wr.heap.size ≠ gR ∧ Refs (wr.alloc (.cells c 39)) gR n st en ch (fun _ => 0) (fun _ => 0) ∧ Chunks (wr.alloc (.cells c 39)) gR n ch sl dp := by
  refine ⟨?_, ?_, hR.all.alloc _, fun j hj => ⟨(hch j hj).1, ?_⟩⟩
  · rw [cell_of_row _ wr.heap.size 4 c 39 (0, 0) (heap_alloc_new wr _)]; exact hc
  · have := hR.lt; omega
  · exact (Below.heap_alloc wr _ (ch j) (blk_lt (hch j hj).2)).trans (hch j hj).2

/-- What stands behind settleRuns. -/
theorem after_settle {w5 wr W w8 : World} {gR n : Nat} {st en : Nat → Int} {sl : Nat → Bool} {dp : Nat → Int} {ch : Nat → Nat} (hG : w5.grownBy wr (some gR)) (hW : wr.grownBy W (some gR)) (h : Settled W w8 gR n st en ch sl dp 0) :
    w5.grownBy w8 (some gR) ∧ W.grownBy w8 (some gR) ∧ Refs w8 gR n st en ch (RE (joins st en sl n) dp n) (RM (joins st en sl n) dp n) := by
  obtain ⟨h1, re, rm, h2, h3⟩ := h
  exact ⟨grownBy_trans (grownBy_trans hG hW) h1, h1, h2.congr (fun j hj => (h3 j (Nat.zero_le _) hj).1) (fun j hj => (h3 j (Nat.zero_le _) hj).2)⟩

/-- The breaks marked so far: below k. -/
def brkV (jn : Nat → Bool) (k j : Nat) : Value := .bool (decide (0 < j ∧ j < k) && !jn (j - 1))

theorem brk_set {w : World} {g n : Nat} {jn : Nat → Bool} {p : Nat} (h : Row w g n (brkV jn (p + 1)) 4) : Row (w.setCell ⟨g, p + 1, none⟩ (.bool (!jn p))) g n (brkV jn (p + 1 + 1)) 4 := by
  refine (h.set (p + 1) (.bool (!jn p))).congr fun j _ => ?_
  unfold updV brkV
  by_cases hj : j = p + 1
  · subst hj; simp
  · rw [if_neg hj, show decide (0 < j ∧ j < p + 1 + 1) = decide (0 < j ∧ j < p + 1) by rw [decide_eq_decide]; omega]

/-- The model's two rows so far: the ends below te, the marks where 'ok' says so. -/
def SegX (wB wr : World) (gE gM n : Nat) (jn : Nat → Bool) (dp : Nat → Int) (te : Nat) (ok : Nat → Prop) : Prop :=
  Below gE wB wr ∧ ∃ VE VM, Row wr gE n VE 3 ∧ Row wr gM n VM 3 ∧ (∀ k, k < te → VE k = .int .i64 (RE jn dp n k)) ∧ ∀ k, ok k → VM k = .int .i64 (RM jn dp n k)

section
variable {wB wr : World} {gE gM n : Nat} {jn : Nat → Bool} {dp : Nat → Int} {te : Nat} {ok : Nat → Prop}
theorem SegX.setE (h : SegX wB wr gE gM n jn dp te ok) (hEM : gE < gM) {v : Int} (hv : RE jn dp n te = v) : SegX wB (wr.setCell ⟨gE, te, none⟩ (.int .i64 v)) gE gM n jn dp (te + 1) ok := by
  obtain ⟨hb, VE, VM, h1, h2, h3, h4⟩ := h
  refine ⟨hb.setCell (Nat.le_refl _) _, _, VM, h1.set te _, h2.other (by simp; omega) _, fun k hk => ?_, h4⟩
  unfold updV
  by_cases hkt : k = te
  · subst hkt; rw [if_pos rfl, hv]
  · rw [if_neg hkt]; exact h3 k (by omega)
theorem SegX.setM (h : SegX wB wr gE gM n jn dp te ok) (hEM : gE < gM) {u : Nat} {v : Int} (hv : RM jn dp n u = v) : SegX wB (wr.setCell ⟨gM, u, none⟩ (.int .i64 v)) gE gM n jn dp te (fun k => k = u ∨ ok k) := by
  obtain ⟨hb, VE, VM, h1, h2, h3, h4⟩ := h
  refine ⟨hb.setCell (show gE ≤ gM by omega) _, VE, _, h1.other (by simp; omega) _, h2.set u _, h3, fun k hk => ?_⟩
  unfold updV
  by_cases hkt : k = u
  · subst hkt; rw [if_pos rfl, hv]
  · rw [if_neg hkt]; exact h4 k (hk.resolve_left hkt)
theorem SegX.weaken {ok' : Nat → Prop} (h : SegX wB wr gE gM n jn dp te ok) (hk : ∀ k, ok' k → ok k) : SegX wB wr gE gM n jn dp te ok' := by
  obtain ⟨hb, VE, VM, h1, h2, h3, h4⟩ := h
  exact ⟨hb, VE, VM, h1, h2, h3, fun k h => h4 k (hk k h)⟩
theorem SegX.thereE (h : SegX wB wr gE gM n jn dp te ok) (j : Nat) (hj : j < n) : (∃ v, wr.cell? ⟨gE, j, none⟩ = some v) ∧ wr.frozen? ⟨gE, j, none⟩ = false := by
  obtain ⟨hb, VE, VM, h1, h2, h3, h4⟩ := h
  exact ⟨⟨_, h1.cell j hj⟩, h1.free j⟩
theorem SegX.thereM (h : SegX wB wr gE gM n jn dp te ok) (j : Nat) (hj : j < n) : (∃ v, wr.cell? ⟨gM, j, none⟩ = some v) ∧ wr.frozen? ⟨gM, j, none⟩ = false := by
  obtain ⟨hb, VE, VM, h1, h2, h3, h4⟩ := h
  exact ⟨⟨_, h2.cell j hj⟩, h2.free j⟩
theorem SegX.brk {gK : Nat} (h : SegX wB wr gE gM n jn dp te ok) (hK : Row wB gK n (brkV jn n) 4) (lK : gK < gE) (j : Nat) (hj : j < n) (hj1 : 1 ≤ j) {b : Bool} (hb : jn (j - 1) = b) : wr.cell? ⟨gK, j, none⟩ = some (.bool !b) := by
  rw [(hK.kept (h.1.block gK lK)).cell j hj]
  unfold brkV
  rw [decide_eq_true (by omega), hb]
  simp
theorem SegX.dep {g3 : Nat} (h : SegX wB wr gE gM n jn dp te ok) (h3 : Row wB g3 n (fun j => .int .i32 (dp j)) 21) (l3 : g3 < gE) (j : Nat) (hj : j < n) : wr.cell? ⟨g3, j, none⟩ = some (.int .i32 (dp j)) :=
  (h3.kept (h.1.block g3 l3)).cell j hj
theorem SegX.done (h : SegX wB wr gE gM n jn dp n (fun k => k < n)) (j : Nat) (hj : j < n) : wr.cell? ⟨gE, j, none⟩ = some (.int .i64 (RE jn dp n j)) ∧ wr.cell? ⟨gM, j, none⟩ = some (.int .i64 (RM jn dp n j)) := by
  obtain ⟨hb, VE, VM, h1, h2, h3, h4⟩ := h
  exact ⟨by rw [h1.cell j hj, h3 j hj], by rw [h2.cell j hj, h4 j hj]⟩
end

theorem markFrom_end (jn : Nat → Bool) (dp : Nat → Int) (n j : Nat) : markFrom jn dp n j j = -1 := by unfold markFrom; rw [if_pos rfl]
theorem markFrom_lt {jn : Nat → Bool} {dp : Nat → Int} {n j u : Nat} (h : u < j) : markFrom jn dp n j u = RM jn dp n u := by unfold markFrom; rw [if_neg (by omega)]
theorem best_end (dp : Nat → Int) : best dp (-1) = 0 := rfl
theorem best_at (dp : Nat → Int) (u : Nat) : best dp (u : Int) = dp u := by unfold best; rw [if_pos (by omega)]; simp

set_option maxRecDepth 10000 in
set_option maxHeartbeats 8000000 in
theorem main_pos (b0 o0 b1 o1 b2 o2 b3 o3 n c0 c1 c2 c3 : Nat) (st en : Nat → Int) (sl : Nat → Bool) (dp : Nat → Int) (w : World) (hn0 : 0 < n) (hn : 21 * n ≤ 1048576) (hdp : ∀ j, -2147483648 ≤ dp j ∧ dp j ≤ 2147483647)
    (h0 : Cells w (some ⟨b0, o0, none⟩) n (fun j => .int .i64 (st j))) (h1 : Cells w (some ⟨b1, o1, none⟩) n (fun j => .int .i64 (en j)))
    (h2 : Cells w (some ⟨b2, o2, none⟩) n (fun j => .bool (sl j))) (h3 : Cells w (some ⟨b3, o3, none⟩) n (fun j => .int .i32 (dp j))) :
    Calls Try.prog 3 #[.slice (some ⟨b0, o0, none⟩) n c0, .slice (some ⟨b1, o1, none⟩) n c1, .slice (some ⟨b2, o2, none⟩) n c2, .slice (some ⟨b3, o3, none⟩) n c3] w fun e w' => e = .returned (.bool true) ∧ Below w.heap.size w w' := by
  have HD : Hid (∀ j, -2147483648 ≤ dp j ∧ dp j ≤ 2147483647) := hdp
  clear hdp
  obtain ⟨i34, q1, q2, q3, q4⟩ := info_parts Try.info34
  go_enter Try.func3, Try.ntmps3
  go_wp2_with fail
  refine (zz7_any _ _ _ _ n n n n c0 c1 c2 c3 w (by omega)).mono ?_
  rintro e w0 ⟨rfl, rfl⟩
  go_wp2_with fail
  refine (clone8 b0 o0 n c0 (fun j => .int .i64 (st j)) _ hn0 (by omega) (fun _ => rfl) h0).mono ?_
  rintro e w1 ⟨rfl, r0, B1⟩
  go_wp2_with fail
  refine (clone8 b1 o1 n c1 (fun j => .int .i64 (en j)) _ hn0 (by omega) (fun _ => rfl) (h1.below B1 (Nat.le_refl _))).mono ?_
  rintro e w2 ⟨rfl, r1, N2⟩
  have s1 := B1.size
  have B2 := B1.trans (N2.mono s1)
  go_wp2_with fail
  refine (clone9 b2 o2 n c2 (fun j => .bool (sl j)) _ hn0 (by omega) (fun _ => rfl) (h2.below B2 (Nat.le_refl _))).mono ?_
  rintro e w3 ⟨rfl, r2, N3⟩
  have s2 := N2.size
  have B3 := B2.trans (N3.mono (by omega))
  go_wp2_with fail
  refine (clone10 b3 o3 n c3 (fun j => .int .i32 (dp j)) _ hn0 (by omega) (fun _ => rfl) (h3.below B3 (Nat.le_refl _))).mono ?_
  rintro e w4 ⟨rfl, r3, N4⟩
  have s3 := N3.size
  have s4 := N4.size
  have B4 := B3.trans (N4.mono (by omega))
  have r0 : Row w1 w0.heap.size n (fun j => .int .i64 (st j)) 3 := r0
  have r1 : Row w2 w1.heap.size n (fun j => .int .i64 (en j)) 3 := r1
  have r2 : Row w3 w2.heap.size n (fun j => .bool (sl j)) 4 := r2
  have r3 : Row w4 w3.heap.size n (fun j => .int .i32 (dp j)) 21 := r3
  have r0 := ((r0.below N2 (Nat.le_refl _)).below N3 (Nat.le_refl _)).below N4 (Nat.le_refl _)
  have r1 := (r1.below N3 (Nat.le_refl _)).below N4 (Nat.le_refl _)
  have r2 := r2.below N4 (Nat.le_refl _)
  clear h0 h1 h2 h3 B1 B2 B3 N2 N3 N4
  obtain ⟨g0, G0⟩ : ∃ g, Hid (w0.heap.size = g) := ⟨_, rfl⟩
  obtain ⟨g1, G1⟩ : ∃ g, Hid (w1.heap.size = g) := ⟨_, rfl⟩
  obtain ⟨g2, G2⟩ : ∃ g, Hid (w2.heap.size = g) := ⟨_, rfl⟩
  obtain ⟨g3, G3⟩ : ∃ g, Hid (w3.heap.size = g) := ⟨_, rfl⟩
  rw [G0.out] at r0
  rw [G1.out] at r1
  rw [G2.out] at r2
  rw [G3.out] at r3
  rw [G0.out, G1.out, G2.out, G3.out]
  have HB4 : Hid (Below w0.heap.size w0 w4) := B4
  have HB0 : Hid (w0.heap.size ≤ w4.heap.size) := B4.size
  clear B4 s1 s2 s3 s4
  go_wp2_with (at_make; refine wpList_make_full _ rfl _ _ 29 rfl w4.heap.size 34 i34 (.agg #[.int .i64 0, .int .i64 0, .pointer none, .int .i32 0, .int .i32 0]) 5 Try.underlying29 q1 q2 q3 _ _ _ _ n rfl rfl rfl rfl (by rw [q4]; omega) (by unfold maxLen; omega) (Nat.le_refl _) ?_)
  intro w5 hown hgrow
  have rr : RefsTo w5 w4.heap.size n 0 st en (fun _ => 0) := refsTo_owns hown
  have l0 := r0.lt
  have l1 := r1.lt
  have l2 := r2.lt
  have l3 := r3.lt
  have r0 := r0.grown hgrow (by simp)
  have r1 := r1.grown hgrow (by simp)
  have r2 := r2.grown hgrow (by simp)
  have r3 := r3.grown hgrow (by simp)
  have HB5 : Hid (Below w0.heap.size w0 w5) := HB4.out.grown hgrow HB0.out (fun k hk => by cases hk)
  obtain ⟨gR, GR⟩ : ∃ g, Hid (w4.heap.size = g) := ⟨_, rfl⟩
  rw [GR.out] at rr l0 l1 l2 l3
  have HBR : Hid (w0.heap.size ≤ gR) := by rw [← GR.out]; exact HB0.out
  rw [GR.out]
  clear hown hgrow q1 q2 q3 q4 HB4 HB0
  go_wp2
  have HM0 : Hid (Made w5 w5 gR n st en sl dp 0) := ⟨World.grownBy.refl _ _, _, rr, fun j hj => absurd hj (by omega)⟩
  have R0 : Hid (Row w5 g0 n (fun j => .int .i64 (st j)) 3) := r0
  have R1 : Hid (Row w5 g1 n (fun j => .int .i64 (en j)) 3) := r1
  have R2 : Hid (Row w5 g2 n (fun j => .bool (sl j)) 4) := r2
  have R3 : Hid (Row w5 g3 n (fun j => .int .i32 (dp j)) 21) := r3
  clear rr r0 r1 r2 r3
  go_loopw [11] (fun i wr => ∃ k : Nat, k ≤ n ∧ i = .int .i64 k ∧ Made w5 wr gR n st en sl dp k) (fun i _ => n - (intOf i).toNat)
  case atStart => exact ⟨0, Nat.zero_le _, rfl, HM0.out⟩
  case round =>
    clear HM0
    obtain ⟨k, hk, rfl, hG, ch, hR, hch⟩ := hrel
    by_cases hlt : k < n
    · have hkn : (k : Int) < (n : Int) := by omega
      have hk0 : (0 : Int) ≤ (k : Int) := by omega
      have x0 := (R0.out.grown hG (by simp; omega)).cell k hlt
      have x1 := (R1.out.grown hG (by simp; omega)).cell k hlt
      have x2 := (R2.out.grown hG (by simp; omega)).cell k hlt
      have x3 := (R3.out.grown hG (by simp; omega)).cell k hlt
      have lR := hR.lt
      obtain ⟨u0, z0⟩ := hR.there (k * 5) (by omega)
      obtain ⟨u1, z1⟩ := hR.there (k * 5 + 1) (by omega)
      obtain ⟨u2, z2⟩ := hR.there (k * 5 + 2) (by omega)
      obtain ⟨u3, z3⟩ := hR.there (k * 5 + 3) (by omega)
      obtain ⟨u4, z4⟩ := hR.there (k * 5 + 4) (by omega)
      have f0 := hR.free (k * 5)
      have f1 := hR.free (k * 5 + 1)
      have f2 := hR.free (k * 5 + 2)
      have f3 := hR.free (k * 5 + 3)
      have f4 := hR.free (k * 5 + 4)
      have t0 : g0 < wr.heap.size := Nat.lt_trans l0 lR
      have t1 : g1 < wr.heap.size := Nat.lt_trans l1 lR
      have t2 : g2 < wr.heap.size := Nat.lt_trans l2 lR
      have t3 : g3 < wr.heap.size := Nat.lt_trans l3 lR
      have m0 : ¬ gR = g0 := by omega
      have m1 : ¬ gR = g1 := by omega
      have m2 : ¬ gR = g2 := by omega
      have m3 : ¬ gR = g3 := by omega
      have HG : Hid (w5.grownBy wr (some gR)) := hG
      have HR : Hid (RefsTo wr gR n k st en ch) := hR
      have HCh : Hid (∀ j, j < k → ch j ≠ gR ∧ IsChunk wr (ch j) (sl j) (dp j)) := hch
      clear hG hR hch
      go_wp2_with fail
      go_region_held3 (fun w' => w'.cell? ⟨g0, k, none⟩ = some (.int .i64 (st k)) ∧ w'.cell? ⟨g1, k, none⟩ = some (.int .i64 (en k)) ∧ w'.cell? ⟨g2, k, none⟩ = some (.bool (sl k)) ∧ w'.cell? ⟨g3, k, none⟩ = some (.int .i32 (dp k)))
        (simp (maxDischargeDepth := 10) [World.cell?_alloc_some, World.cell?_setCell_far, x0, x1, x2, x3, m0, m1, m2, m3])
        (first
          | (go_at_call 12; refine (chunk_any (sl k) (dp k) _).mono ?_; rintro e w' ⟨rfl, rfl⟩)
          | (go_at_call 11; refine (ref_any (st k) (en k) (.pointer (some ⟨wr.heap.size, 0, none⟩)) ⟨_, rfl⟩ _).mono ?_; rintro e w' ⟨rfl, rfl⟩))
      go_wp2
      go_roundw
      case rel =>
        exact ⟨k + 1, by omega, by go_num, made_alloc HG.out (grownBy_trans (grownBy_trans (grownBy_trans (grownBy_trans (grownBy_set _ _ _ _) (grownBy_set _ _ _ _)) (grownBy_set _ _ _ _)) (grownBy_set _ _ _ _)) (grownBy_set _ _ _ _)) (by simp) lR (HR.out.put hlt wr.heap.size) HCh.out _⟩
      case measure => simp [intOf]; omega
    · have ek : n = k := by omega
      subst ek
      have HG : Hid (w5.grownBy wr (some gR)) := hG
      have HR : Hid (RefsTo wr gR n n st en ch) := hR
      have HCh : Hid (∀ j, j < n → ch j ≠ gR ∧ IsChunk wr (ch j) (sl j) (dp j)) := hch
      clear hG hR hch
      go_wp2_with fail
      obtain ⟨pc, pne, pr, pch⟩ := part_facts HR.out HCh.out #[.string ⟨#[]⟩, .int .i64 0, .slice none 0 0, .bool false, .slice (some ⟨gR, 0, none⟩) n n] _ rfl
      refine (zsettle_any wr.heap.size gR n st en ch sl dp _ _ _ (by omega) pc pne pr pch HD.out).mono ?_
      rintro e w8 ⟨rfl, hset⟩
      obtain ⟨G8, G78, R8⟩ := after_settle HG.out (World.grownBy_alloc wr _ (some gR)) hset
      have P8 : w8.cell? ⟨wr.heap.size, 4, none⟩ = some (.slice (some ⟨gR, 0, none⟩) n n) := G78.cell pc (by simpa using pne)
      have lP : wr.heap.size < w8.heap.size := by have h := G78.size; simp at h; omega
      obtain ⟨gP, GP⟩ : ∃ g, Hid (wr.heap.size = g) := ⟨_, rfl⟩
      rw [GP.out] at P8 lP pne
      rw [GP.out]
      have HB8 : Hid (Below w0.heap.size w0 w8) := HB5.out.grown ⟨G8.os, G8.tape, G8.output, G8.size, fun k hk hne => G8.block k hk hne⟩ HB5.out.size (fun k hk => by simp only [Option.some.injEq] at hk; rw [← hk]; exact HBR.out)
      have S0 : Hid (Row w8 g0 n (fun j => .int .i64 (st j)) 3) := R0.out.grown G8 (by simp; omega)
      have S1 : Hid (Row w8 g1 n (fun j => .int .i64 (en j)) 3) := R1.out.grown G8 (by simp; omega)
      have S2 : Hid (Row w8 g2 n (fun j => .bool (sl j)) 4) := R2.out.grown G8 (by simp; omega)
      have S3 : Hid (Row w8 g3 n (fun j => .int .i32 (dp j)) 21) := R3.out.grown G8 (by simp; omega)
      have S4 : Hid (Refs w8 gR n st en ch (RE (joins st en sl n) dp n) (RM (joins st en sl n) dp n)) := R8
      have S5 : Hid (w8.cell? ⟨gP, 4, none⟩ = some (.slice (some ⟨gR, 0, none⟩) n n)) := P8
      clear pc pr pch hset G8 G78 R8 HR HCh HG R0 R1 R2 R3 HB5 P8 hlt hk
      obtain ⟨i4, q1, q2, q3, q4⟩ := info_parts Try.info4
      go_wp2_with (at_make; refine wpList_make_full _ rfl _ _ 23 rfl w8.heap.size 4 i4 (.bool false) 1 Try.underlying23 q1 q2 q3 _ _ _ _ n rfl rfl rfl rfl (by rw [q4]; omega) (by unfold maxLen; omega) (Nat.le_refl _) ?_)
      intro w9 hown hgrow
      rw [toList_madeCells_one] at hown
      have k9 := row_of_owns hown
      obtain ⟨gK, GK⟩ : ∃ g, Hid (w8.heap.size = g) := ⟨_, rfl⟩
      have k9 : Row w9 gK n (brkV (joins st en sl n) (0 + 1)) 4 := by
        rw [← GK.out]
        exact k9.congr (fun j _ => by unfold brkV; rw [decide_eq_false (by omega)]; rfl)
      have l0 : g0 < gK := by rw [← GK.out]; exact S0.out.lt
      have l1 : g1 < gK := by rw [← GK.out]; exact S1.out.lt
      have l2 : g2 < gK := by rw [← GK.out]; exact S2.out.lt
      have l3 : g3 < gK := by rw [← GK.out]; exact S3.out.lt
      have lR : gR < gK := by rw [← GK.out]; exact S4.out.lt
      rw [GK.out] at lP
      have HB9 : Hid (Below w0.heap.size w0 w9) := HB8.out.grown hgrow HB8.out.size (fun k hk => by cases hk)
      have HBK : Hid (w0.heap.size ≤ gK) := by rw [← GK.out]; exact HB8.out.size
      have S0 : Hid (Row w9 g0 n (fun j => .int .i64 (st j)) 3) := S0.out.grown hgrow (by simp)
      have S1 : Hid (Row w9 g1 n (fun j => .int .i64 (en j)) 3) := S1.out.grown hgrow (by simp)
      have S2 : Hid (Row w9 g2 n (fun j => .bool (sl j)) 4) := S2.out.grown hgrow (by simp)
      have S3 : Hid (Row w9 g3 n (fun j => .int .i32 (dp j)) 21) := S3.out.grown hgrow (by simp)
      have S4 : Hid (Refs w9 gR n st en ch (RE (joins st en sl n) dp n) (RM (joins st en sl n) dp n)) := S4.out.kept (hgrow.block gR S4.out.lt (by simp))
      have S5 : Hid (w9.cell? ⟨gP, 4, none⟩ = some (.slice (some ⟨gR, 0, none⟩) n n)) := hgrow.cell S5.out (by simp)
      have K9 : Hid (Row w9 gK n (brkV (joins st en sl n) (0 + 1)) 4) := k9
      rw [GK.out]
      clear hown hgrow k9 q1 q2 q3 q4 HB8
      go_wp2
      go_loopw [14] (fun i wr => ∃ p : Nat, p + 1 ≤ n ∧ i = .int .i64 ((p : Int) + 1) ∧ w9.grownBy wr (some gK) ∧ Row wr gK n (brkV (joins st en sl n) (p + 1)) 4) (fun i _ => n - (intOf i).toNat)
      case atStart => exact ⟨0, by omega, rfl, World.grownBy.refl _ _, K9.out⟩
      case round =>
        obtain ⟨p, hp, rfl, hG, hK⟩ := hrel
        by_cases hlt : p + 1 < n
        · have hpn : (p : Int) + 1 < (n : Int) := by omega
          have hpn2 : (p : Int) < (n : Int) := by omega
          have x0 : wr.cell? ⟨g0, p + 1, none⟩ = some (.int .i64 (st (p + 1))) := (S0.out.grown hG (by simp; omega)).cell (p + 1) hlt
          have x1 : wr.cell? ⟨g1, p, none⟩ = some (.int .i64 (en p)) := (S1.out.grown hG (by simp; omega)).cell p (by omega)
          have x2 : wr.cell? ⟨g2, p + 1, none⟩ = some (.bool (sl (p + 1))) := (S2.out.grown hG (by simp; omega)).cell (p + 1) hlt
          have x3 := hK.cell (p + 1) hlt
          have f3 := hK.free (p + 1)
          have m0 : ¬ gK = g0 := by omega
          have m1 : ¬ gK = g1 := by omega
          have m2 : ¬ gK = g2 := by omega
          have HJ : Hid (joins st en sl n p = ((st (p + 1) == en p) && sl (p + 1))) := by show _ = _; unfold joins; rw [decide_eq_true hlt]; simp
          have HG : Hid (w9.grownBy wr (some gK)) := hG
          have HK : Hid (Row wr gK n (brkV (joins st en sl n) (p + 1)) 4) := hK
          clear hG hK
          obtain ⟨sn, HSn⟩ : ∃ v, Hid (st (p + 1) = v) := ⟨_, rfl⟩
          obtain ⟨ei, HEi⟩ : ∃ v, Hid (en p = v) := ⟨_, rfl⟩
          obtain ⟨bn, HBn⟩ : ∃ v, Hid (sl (p + 1) = v) := ⟨_, rfl⟩
          rw [HSn.out] at x0
          rw [HEi.out] at x1
          rw [HBn.out] at x2
          have HJ : Hid (joins st en sl n p = ((sn == ei) && bn)) := by show _ = _; rw [HJ.out, HSn.out, HEi.out, HBn.out]
          by_cases hse : sn = ei
          · have hg : (sn == ei) = true := by simp [hse]
            clear hse
            go_wp2_with fail
            have HV : Hid (Row (wr.setCell ⟨gK, p + 1, none⟩ (.bool !bn)).drew gK n (brkV (joins st en sl n) (p + 1 + 1)) 4) := by
              have h := brk_set HK.out
              rw [HJ.out, hg, Bool.true_and] at h
              exact h
            go_region
            go_wp2
            go_roundw
            case rel => exact ⟨p + 1, by omega, by go_num, grownBy_trans HG.out (grownBy_trans (grownBy_set _ _ _ _) (grown_drew _ _)), HV.out⟩
            case measure => simp [intOf]; omega
          · have hg : (sn == ei) = false := by simp [hse]
            clear hse
            go_wp2_with fail
            have HV : Hid (Row (wr.setCell ⟨gK, p + 1, none⟩ (.bool true)).drew gK n (brkV (joins st en sl n) (p + 1 + 1)) 4) := by
              have h := brk_set HK.out
              rw [HJ.out, hg, Bool.false_and] at h
              exact h
            go_region
            go_wp2
            go_roundw
            case rel => exact ⟨p + 1, by omega, by go_num, grownBy_trans HG.out (grownBy_trans (grownBy_set _ _ _ _) (grown_drew _ _)), HV.out⟩
            case measure => simp [intOf]; omega
        · have ek : n = p + 1 := by omega
          have B10 : Below w0.heap.size w0 wr := HB9.out.grown hG HB9.out.size (fun k hk => by simp only [Option.some.injEq] at hk; rw [← hk]; exact HBK.out)
          have T0 : Row wr g0 n (fun j => .int .i64 (st j)) 3 := S0.out.grown hG (by simp; omega)
          have T1 : Row wr g1 n (fun j => .int .i64 (en j)) 3 := S1.out.grown hG (by simp; omega)
          have T3 : Row wr g3 n (fun j => .int .i32 (dp j)) 21 := S3.out.grown hG (by simp; omega)
          have T4 : Refs wr gR n st en ch (RE (joins st en sl n) dp n) (RM (joins st en sl n) dp n) := S4.out.kept (hG.block gR S4.out.lt (by simp; omega))
          have T5 : wr.cell? ⟨gP, 4, none⟩ = some (.slice (some ⟨gR, 0, none⟩) n n) := hG.cell S5.out (by simp; omega)
          have T6 : Row wr gK n (brkV (joins st en sl n) n) 4 := by rw [show brkV (joins st en sl n) n = brkV (joins st en sl n) (p + 1) by rw [ek]] ; exact hK
          have HEK : Hid (n = p + 1) := ek
          clear ek hG hK
          obtain ⟨wA, hwA⟩ : ∃ W, W = wr := ⟨_, rfl⟩
          rw [← hwA] at B10 T0 T1 T3 T4 T5 T6
          obtain ⟨i3, q1, q2, q3, q4⟩ := info_parts Try.info3
          go_wp2_with (at_make; refine wpList_make_full _ rfl _ _ 22 rfl wr.heap.size 3 i3 (.int .i64 0) 1 Try.underlying22 q1 q2 q3 _ _ _ _ n rfl rfl rfl rfl (by rw [q4]; omega) (by unfold maxLen; omega) (Nat.le_refl _) ?_)
          intro w10 hown10 hgrow10
          go_wp2_with (at_make; refine wpList_make_full _ rfl _ _ 22 rfl w10.heap.size 3 i3 (.int .i64 0) 1 Try.underlying22 q1 q2 q3 _ _ _ _ n rfl rfl rfl rfl (by rw [q4]; omega) (by unfold maxLen; omega) (Nat.le_refl _) ?_)
          intro w11 hown11 hgrow11
          subst hwA
          rw [toList_madeCells_one] at hown10 hown11
          have E10 := (row_of_owns hown10).grown hgrow11 (by simp)
          have M11 := row_of_owns hown11
          have g01 : wA.heap.size < w10.heap.size := (row_of_owns hown10).lt
          obtain ⟨gE, GE⟩ : ∃ g, Hid (wA.heap.size = g) := ⟨_, rfl⟩
          obtain ⟨gM, GM⟩ : ∃ g, Hid (w10.heap.size = g) := ⟨_, rfl⟩
          have l3 : g3 < gE := by rw [← GE.out]; exact T3.lt
          have lR : gR < gE := by rw [← GE.out]; exact T4.lt
          have lK : gK < gE := by rw [← GE.out]; exact T6.lt
          have lP : gP < gE := by rw [← GE.out]; exact World.block_lt_of_cell? wA _ T5
          have hEM : gE < gM := by rw [← GE.out, ← GM.out]; exact g01
          have G : wA.grownBy w11 none := grownBy_trans hgrow10 hgrow11
          have U3 : Hid (Row w11 g3 n (fun j => .int .i32 (dp j)) 21) := T3.grown G (by simp)
          have U4 : Hid (Refs w11 gR n st en ch (RE (joins st en sl n) dp n) (RM (joins st en sl n) dp n)) := T4.kept (G.block gR T4.lt (by simp))
          have U5 : Hid (w11.cell? ⟨gP, 4, none⟩ = some (.slice (some ⟨gR, 0, none⟩) n n)) := G.cell T5 (by simp)
          have U6 : Hid (Row w11 gK n (brkV (joins st en sl n) n) 4) := T6.grown G (by simp)
          have HB11 : Hid (Below w0.heap.size w0 w11) := B10.grown G B10.size (fun k hk => by cases hk)
          have HBE : Hid (w0.heap.size ≤ gE) := by rw [← GE.out]; exact B10.size
          rw [GE.out] at E10
          rw [GM.out] at M11
          have VE0 : Hid (Row w11 gE n (fun _ => .int .i64 0) 3) := E10
          have VM0 : Hid (Row w11 gM n (fun _ => .int .i64 0) 3) := M11
          rw [GE.out, GM.out]
          clear hown10 hown11 hgrow10 hgrow11 q1 q2 q3 q4 T0 T1 T3 T4 T5 T6 B10 E10 M11 g01 G S0 S1 S2 S3 S4 S5 K9 HB9 l0 l1 l2
          go_wp2
          have HS0 : Hid (SegX w11 w11 gE gM n (joins st en sl n) dp 0 (fun k => k < 0)) := ⟨Below.refl _ _, _, _, VE0.out, VM0.out, fun k hk => absurd hk (by omega), fun k hk => absurd hk (by omega)⟩
          clear VE0 VM0
          go_loopw [17, 18] (fun sa sj wr => ∃ a j : Nat, sa = .int .i64 a ∧ sj = .int .i64 j ∧ 1 ≤ j ∧ ((j ≤ n ∧ a < j) ∨ (j = n + 1 ∧ a = n)) ∧ (∀ k, a < k → k < j → joins st en sl n (k - 1) = true) ∧ SegX w11 wr gE gM n (joins st en sl n) dp a (fun k => k < a)) (fun _ sj _ => n + 1 - (intOf sj).toNat)
          case atStart => exact ⟨0, 1, rfl, rfl, by omega, .inl ⟨by omega, by omega⟩, fun k h1 h2 => by omega, HS0.out⟩
          case round =>
            clear HS0
            obtain ⟨a, j, rfl, rfl, hj1, haj, hseg, hS⟩ := hrel
            have HSeg : Hid (∀ k, a < k → k < j → joins st en sl n (k - 1) = true) := hseg
            have HS : Hid (SegX w11 wr gE gM n (joins st en sl n) dp a (fun k => k < a)) := hS
            clear hseg hS
            rcases (show (j ≤ n ∧ a < j) ∨ (j = n + 1 ∧ a = n) from haj) with ⟨hjn, hal⟩ | ⟨hjn, hal⟩
            · clear haj
              have hjI : (j : Int) ≤ (n : Int) := by omega
              have hj0 : (0 : Int) ≤ (j : Int) := by omega
              by_cases hjl : j < n
              · have hjlI : (j : Int) < (n : Int) := by omega
                cases HL : joins st en sl n (j - 1) with
                | true =>
                  have b6 := HS.out.brk U6.out lK j hjl hj1 HL
                  have HLt : Hid (joins st en sl n (j - 1) = true) := HL
                  clear HL
                  go_wp2
                  go_roundw
                  case rel => exact ⟨a, j + 1, rfl, by go_num, by omega, .inl ⟨by omega, by omega⟩, fun k h1 h2 => by rcases (show k < j ∨ k = j by omega) with h | h; exact HSeg.out k h1 h; rw [h]; exact HLt.out, HS.out⟩
                  case measure => simp [intOf]; omega
                | false =>
                  have b6 := HS.out.brk U6.out lK j hjl hj1 HL
                  have HLast : Hid (joins st en sl n (j - 1) = false) := HL
                  have HRE : Hid (∀ k, a ≤ k → k < j → RE (joins st en sl n) dp n k = (j : Int)) := fun k h1 h2 => seg_RE hjn HLast.out HSeg.out _ k rfl h1 h2
                  obtain ⟨wo, rfl⟩ : ∃ wo : World, wo = wr := ⟨_, rfl⟩
                  go_wp2
                  go_loopw [19] (fun sk wq => ∃ t : Nat, sk = .int .i64 t ∧ a ≤ t ∧ t ≤ j ∧ SegX w11 wq gE gM n (joins st en sl n) dp t (fun k => k < a)) (fun sk _ => j - (intOf sk).toNat)
                  case atStart => exact ⟨a, rfl, Nat.le_refl _, by omega, HS.out⟩
                  case round =>
                    obtain ⟨t, rfl, hat, htj, hT⟩ := hrel
                    by_cases htl : t < j
                    · obtain ⟨⟨v, cE⟩, fE⟩ := hT.thereE t (by omega)
                      have htn : (t : Int) < (n : Int) := by omega
                      have HT : Hid _ := hT.setE hEM (HRE.out t hat htl)
                      clear hT
                      go_wp2
                      go_roundw
                      case rel => exact ⟨t + 1, by go_num, by omega, by omega, HT.out⟩
                      case measure => simp [intOf]; omega
                    · have et : j = t := by omega
                      subst et
                      have HT : Hid (SegX w11 wr gE gM n (joins st en sl n) dp j (fun k => k < a ∨ (j ≤ k ∧ k < j))) := hT.weaken (fun k h => by omega)
                      clear hT
                      go_wp2
                      go_loopw [20, 21, 22] (fun sb sm sk wq => ∃ t : Nat, a ≤ t ∧ t ≤ j ∧ sk = .int .i64 ((t : Int) - 1) ∧ sm = .int .i64 (markFrom (joins st en sl n) dp n j t) ∧ sb = .int .i32 (best dp (markFrom (joins st en sl n) dp n j t)) ∧ SegX w11 wq gE gM n (joins st en sl n) dp j (fun k => k < a ∨ (t ≤ k ∧ k < j))) (fun _ _ sk _ => (intOf sk + 1 - a).toNat)
                      case atStart => exact ⟨j, by omega, Nat.le_refl _, rfl, by rw [markFrom_end], by rw [markFrom_end, best_end], HT.out⟩
                      case round =>
                        clear HT
                        obtain ⟨t, hat2, htj2, rfl, rfl, rfl, hT⟩ := hrel
                        by_cases hta : a < t
                        · obtain ⟨u, rfl⟩ : ∃ u, t = u + 1 := ⟨t - 1, by omega⟩
                          have hun : u < n := by omega
                          have huI : (u : Int) < (n : Int) := by omega
                          have haI : (a : Int) ≤ (u : Int) := by omega
                          have HStep : Hid _ := mark_step hjn HLast.out HSeg.out (show a ≤ u by omega) (show u < j by omega) (dp := dp)
                          have HMF : Hid (markFrom (joins st en sl n) dp n j u = RM (joins st en sl n) dp n u) := markFrom_lt (by omega)
                          have cD := hT.dep U3.out l3 u hun
                          obtain ⟨⟨v, cM⟩, fM⟩ := hT.thereM u hun
                          have HT : Hid (SegX w11 wr gE gM n (joins st en sl n) dp j (fun k => k < a ∨ (u + 1 ≤ k ∧ k < j))) := hT
                          obtain ⟨mq, HMq⟩ : ∃ q, Hid (markFrom (joins st en sl n) dp n j (u + 1) = q) := ⟨_, rfl⟩
                          obtain ⟨bq, HBq⟩ : ∃ q, Hid (best dp mq = q) := ⟨_, rfl⟩
                          obtain ⟨du, HDu⟩ : ∃ q, Hid (dp u = q) := ⟨_, rfl⟩
                          rw [HDu.out] at cD
                          rw [HMq.out, HBq.out]
                          have HStep : Hid (RM (joins st en sl n) dp n u = if 0 < du ∧ bq ≤ du then (u : Int) else mq) := by
                            have h := HStep.out
                            rw [HMq.out, HBq.out, HDu.out] at h
                            exact h
                          clear hT
                          by_cases hc : 0 < du ∧ bq ≤ du
                          · obtain ⟨hc1, hc2⟩ := hc
                            have HV : Hid (RM (joins st en sl n) dp n u = (u : Int)) := by show _ = _; rw [HStep.out, if_pos ⟨hc1, hc2⟩]
                            go_wp2
                            go_roundw
                            case rel => exact ⟨u, by omega, by omega, by go_num, by rw [HMF.out, HV.out]; go_num, by rw [HMF.out, HV.out, best_at, HDu.out], (HT.out.setM hEM HV.out).weaken (fun k h => by omega)⟩
                            case measure => simp [intOf]; omega
                          · have HV : Hid (RM (joins st en sl n) dp n u = mq) := by show _ = _; rw [HStep.out, if_neg hc]
                            by_cases hd1 : 0 < du
                            · have hb2 : ¬ bq ≤ du := fun h => hc ⟨hd1, h⟩
                              clear hc
                              go_wp2
                              go_roundw
                              case rel => exact ⟨u, by omega, by omega, by go_num, by rw [HMF.out, HV.out], by rw [HMF.out, HV.out, HBq.out], (HT.out.setM hEM HV.out).weaken (fun k h => by omega)⟩
                              case measure => simp [intOf]; omega
                            · clear hc
                              go_wp2
                              go_roundw
                              case rel => exact ⟨u, by omega, by omega, by go_num, by rw [HMF.out, HV.out], by rw [HMF.out, HV.out, HBq.out], (HT.out.setM hEM HV.out).weaken (fun k h => by omega)⟩
                              case measure => simp [intOf]; omega
                        · have et : t = a := by omega
                          have hta2 : ¬ (a : Int) ≤ (t : Int) - 1 := by omega
                          have HT : Hid (SegX w11 wr gE gM n (joins st en sl n) dp j (fun k => k < j)) := hT.weaken (fun k h => by omega)
                          clear hT
                          go_wp2
                          go_roundw
                          case rel => exact ⟨j, j + 1, rfl, by go_num, by omega, by omega, fun k h1 h2 => by omega, HT.out⟩
                          case measure => simp [intOf]; omega
              · have hjl2 : ¬ (j : Int) < (n : Int) := by omega
                have HL : joins st en sl n (j - 1) = false := by unfold joins; rw [decide_eq_false (by omega)]; rfl
                have HLast : Hid (joins st en sl n (j - 1) = false) := HL
                have HRE : Hid (∀ k, a ≤ k → k < j → RE (joins st en sl n) dp n k = (j : Int)) := fun k h1 h2 => seg_RE hjn HLast.out HSeg.out _ k rfl h1 h2
                obtain ⟨wo, rfl⟩ : ∃ wo : World, wo = wr := ⟨_, rfl⟩
                go_wp2
                go_loopw [19] (fun sk wq => ∃ t : Nat, sk = .int .i64 t ∧ a ≤ t ∧ t ≤ j ∧ SegX w11 wq gE gM n (joins st en sl n) dp t (fun k => k < a)) (fun sk _ => j - (intOf sk).toNat)
                case atStart => exact ⟨a, rfl, Nat.le_refl _, by omega, HS.out⟩
                case round =>
                  obtain ⟨t, rfl, hat, htj, hT⟩ := hrel
                  by_cases htl : t < j
                  · obtain ⟨⟨v, cE⟩, fE⟩ := hT.thereE t (by omega)
                    have htn : (t : Int) < (n : Int) := by omega
                    have HT : Hid _ := hT.setE hEM (HRE.out t hat htl)
                    clear hT
                    go_wp2
                    go_roundw
                    case rel => exact ⟨t + 1, by go_num, by omega, by omega, HT.out⟩
                    case measure => simp [intOf]; omega
                  · have et : j = t := by omega
                    subst et
                    have HT : Hid (SegX w11 wr gE gM n (joins st en sl n) dp j (fun k => k < a ∨ (j ≤ k ∧ k < j))) := hT.weaken (fun k h => by omega)
                    clear hT
                    go_wp2
                    go_loopw [20, 21, 22] (fun sb sm sk wq => ∃ t : Nat, a ≤ t ∧ t ≤ j ∧ sk = .int .i64 ((t : Int) - 1) ∧ sm = .int .i64 (markFrom (joins st en sl n) dp n j t) ∧ sb = .int .i32 (best dp (markFrom (joins st en sl n) dp n j t)) ∧ SegX w11 wq gE gM n (joins st en sl n) dp j (fun k => k < a ∨ (t ≤ k ∧ k < j))) (fun _ _ sk _ => (intOf sk + 1 - a).toNat)
                    case atStart => exact ⟨j, by omega, Nat.le_refl _, rfl, by rw [markFrom_end], by rw [markFrom_end, best_end], HT.out⟩
                    case round =>
                      clear HT
                      obtain ⟨t, hat2, htj2, rfl, rfl, rfl, hT⟩ := hrel
                      by_cases hta : a < t
                      · obtain ⟨u, rfl⟩ : ∃ u, t = u + 1 := ⟨t - 1, by omega⟩
                        have hun : u < n := by omega
                        have huI : (u : Int) < (n : Int) := by omega
                        have haI : (a : Int) ≤ (u : Int) := by omega
                        have HStep : Hid _ := mark_step hjn HLast.out HSeg.out (show a ≤ u by omega) (show u < j by omega) (dp := dp)
                        have HMF : Hid (markFrom (joins st en sl n) dp n j u = RM (joins st en sl n) dp n u) := markFrom_lt (by omega)
                        have cD := hT.dep U3.out l3 u hun
                        obtain ⟨⟨v, cM⟩, fM⟩ := hT.thereM u hun
                        have HT : Hid (SegX w11 wr gE gM n (joins st en sl n) dp j (fun k => k < a ∨ (u + 1 ≤ k ∧ k < j))) := hT
                        obtain ⟨mq, HMq⟩ : ∃ q, Hid (markFrom (joins st en sl n) dp n j (u + 1) = q) := ⟨_, rfl⟩
                        obtain ⟨bq, HBq⟩ : ∃ q, Hid (best dp mq = q) := ⟨_, rfl⟩
                        obtain ⟨du, HDu⟩ : ∃ q, Hid (dp u = q) := ⟨_, rfl⟩
                        rw [HDu.out] at cD
                        rw [HMq.out, HBq.out]
                        have HStep : Hid (RM (joins st en sl n) dp n u = if 0 < du ∧ bq ≤ du then (u : Int) else mq) := by
                          have h := HStep.out
                          rw [HMq.out, HBq.out, HDu.out] at h
                          exact h
                        clear hT
                        by_cases hc : 0 < du ∧ bq ≤ du
                        · obtain ⟨hc1, hc2⟩ := hc
                          have HV : Hid (RM (joins st en sl n) dp n u = (u : Int)) := by show _ = _; rw [HStep.out, if_pos ⟨hc1, hc2⟩]
                          go_wp2
                          go_roundw
                          case rel => exact ⟨u, by omega, by omega, by go_num, by rw [HMF.out, HV.out]; go_num, by rw [HMF.out, HV.out, best_at, HDu.out], (HT.out.setM hEM HV.out).weaken (fun k h => by omega)⟩
                          case measure => simp [intOf]; omega
                        · have HV : Hid (RM (joins st en sl n) dp n u = mq) := by show _ = _; rw [HStep.out, if_neg hc]
                          by_cases hd1 : 0 < du
                          · have hb2 : ¬ bq ≤ du := fun h => hc ⟨hd1, h⟩
                            clear hc
                            go_wp2
                            go_roundw
                            case rel => exact ⟨u, by omega, by omega, by go_num, by rw [HMF.out, HV.out], by rw [HMF.out, HV.out, HBq.out], (HT.out.setM hEM HV.out).weaken (fun k h => by omega)⟩
                            case measure => simp [intOf]; omega
                          · clear hc
                            go_wp2
                            go_roundw
                            case rel => exact ⟨u, by omega, by omega, by go_num, by rw [HMF.out, HV.out], by rw [HMF.out, HV.out, HBq.out], (HT.out.setM hEM HV.out).weaken (fun k h => by omega)⟩
                            case measure => simp [intOf]; omega
                      · have et : t = a := by omega
                        have hta2 : ¬ (a : Int) ≤ (t : Int) - 1 := by omega
                        have HT : Hid (SegX w11 wr gE gM n (joins st en sl n) dp j (fun k => k < j)) := hT.weaken (fun k h => by omega)
                        clear hT
                        go_wp2
                        go_roundw
                        case rel => exact ⟨j, j + 1, rfl, by go_num, by omega, by omega, fun k h1 h2 => by omega, HT.out⟩
                        case measure => simp [intOf]; omega
            · clear haj
              subst hal
              subst hjn
              have hj2 : ¬ ((a : Int) + 1 ≤ (a : Int)) := by omega
              go_wp2
              obtain ⟨wF, hwF⟩ : ∃ W, W = wr := ⟨_, rfl⟩
              have HS : Hid (SegX w11 wF gE gM a (joins st en sl a) dp a (fun k => k < a)) := by rw [hwF]; exact HS.out
              have HBF : Hid (Below w0.heap.size w0 wF) := HB11.out.trans (HS.out.1.mono HBE.out)
              have X4 : Hid (Refs wF gR a st en ch (RE (joins st en sl a) dp a) (RM (joins st en sl a) dp a)) := U4.out.kept (HS.out.1.block gR lR)
              have X5 : Hid (wF.cell? ⟨gP, 4, none⟩ = some (.slice (some ⟨gR, 0, none⟩) a a)) := (HS.out.1.cell lP).trans U5.out
              subst hwF
              go_loopw [23] (fun si wq => ∃ k : Nat, k ≤ a ∧ si = .int .i64 k ∧ wF.grownBy wq none) (fun si _ => a - (intOf si).toNat)
              case atStart => exact ⟨0, Nat.zero_le _, rfl, World.grownBy.refl _ _⟩
              case round =>
                obtain ⟨k, hk, rfl, hG⟩ := hrel
                by_cases hlt : k < a
                · have hkI : (k : Int) < (a : Int) := by omega
                  have y5 : wr.cell? ⟨gP, 4, none⟩ = some (.slice (some ⟨gR, 0, none⟩) a a) := hG.cell X5.out (by simp)
                  obtain ⟨z0, z1, z2, z3, z4⟩ := (X4.out.kept (hG.block gR X4.out.lt (by simp))).cells k hlt
                  obtain ⟨d0, d1⟩ := HS.out.done k hlt
                  have e0 := hG.cell d0 (by simp)
                  have e1 := hG.cell d1 (by simp)
                  have hre := RE_range (jn := joins st en sl a) (dp := dp) (n := a) (fun i hi => by unfold joins at hi; simp only [Bool.and_eq_true, decide_eq_true_eq] at hi; exact hi.1.1) _ k rfl hlt
                  have hrm := RM_range (jn := joins st en sl a) (dp := dp) (n := a) _ k rfl hlt
                  have hrm : -1 ≤ RM (joins st en sl a) dp a k ∧ RM (joins st en sl a) dp a k ≤ 65536 := by omega
                  obtain ⟨ve, HVe⟩ : ∃ v, Hid (RE (joins st en sl a) dp a k = v) := ⟨_, rfl⟩
                  obtain ⟨vm, HVm⟩ : ∃ v, Hid (RM (joins st en sl a) dp a k = v) := ⟨_, rfl⟩
                  rw [HVe.out] at z3 e0 hre
                  rw [HVm.out] at z4 e1 hrm
                  have hre1 : 0 ≤ ve := by omega
                  have hre2 : ve ≤ 65536 := by omega
                  obtain ⟨hrm1, hrm2⟩ := hrm
                  have lE := World.block_lt_of_cell? wr _ e0
                  have lM := World.block_lt_of_cell? wr _ e1
                  simp only at lE lM
                  have HG : Hid (wF.grownBy wr none) := hG
                  clear hG d0 d1 hre
                  go_wp2_with fail
                  refine (run_any (st k) (en k) (.pointer (some ⟨ch k, 0, none⟩)) ve vm ⟨_, rfl⟩ _).mono ?_
                  rintro e w12 ⟨rfl, rfl⟩
                  go_wp2
                  go_roundw
                  case rel => exact ⟨k + 1, by omega, by go_num, grownBy_trans HG.out (grownBy_drew_alloc _ _ _)⟩
                  case measure => simp [intOf]; omega
                · have HBQ : Hid (Below w0.heap.size w0 wr) := HBF.out.grown hG HBF.out.size (fun k hk => by cases hk)
                  clear hG
                  go_wp2
                  go_ret
                  exact ⟨rfl, HBQ.out⟩
end Go.Proofs.Qxb6003776a
