/-
  'push' by its contract.
-/
import Derived.Test.Qxb6003817aSame
import Derived.Test.Qxb6003817aPlain2
import Derived.Test.Qxb6003817aMeth
import Derived.Deep.RegionLaw
namespace Go.Proofs.Qxb6003817a
open Go.RowKit

theorem Try.info33 : (Try.prog.info? 33).map (fun i => (i.zero, i.size, i.bytes)) = some (some (.agg #[.int .i64 0, .int .u32 0, .int .u32 0, .int .u32 0]), 4, 24) := by kernel_rfl

/-- Below base nothing but block gh has turned. -/
def Far (base gh : Nat) (w w' : World) : Prop := w'.os = w.os ∧ w'.tape = w.tape ∧ w'.output = w.output ∧ w.heap.size ≤ w'.heap.size ∧ ∀ k, k < base → k ≠ gh → w'.heap[k]? = w.heap[k]?

section
variable {base gh : Nat} {a b c : World}
theorem Far.refl (w : World) : Far base gh w w := ⟨rfl, rfl, rfl, Nat.le_refl _, fun _ _ _ => rfl⟩
theorem Far.trans (h : Far base gh a b) (g : Far base gh b c) : Far base gh a c :=
  ⟨g.1.trans h.1, g.2.1.trans h.2.1, g.2.2.1.trans h.2.2.1, Nat.le_trans h.2.2.2.1 g.2.2.2.1, fun k h1 h2 => (g.2.2.2.2 k h1 h2).trans (h.2.2.2.2 k h1 h2)⟩
theorem Far.grown {row : Option Nat} (hg : a.grownBy b row) (hb : base ≤ a.heap.size) (hr : ∀ k, row = some k → base ≤ k ∨ k = gh) : Far base gh a b :=
  ⟨hg.os, hg.tape, hg.output, hg.size, fun k h1 h2 => hg.block k (by omega) (fun e => by rcases hr k e.symm with h | h <;> omega)⟩
theorem Far.none (hg : a.grownBy b none) (hb : base ≤ a.heap.size) : Far base gh a b := Far.grown hg hb (fun k h => by cases h)
end

theorem ord_of {l : List Rid} (h : Ordered l) : Ord l := fun i h0 h1 => by
  have e1 : l[i]? = some l[i] := List.getElem?_eq_getElem h1
  have e2 : l[(i - 1) / 4]? = some (l[(i - 1) / 4]'(by omega)) := List.getElem?_eq_getElem _
  rw [key_some e1, key_some e2]
  exact h i _ _ h0 e1 e2
theorem ordered_of {l : List Rid} (h : Ord l) : Ordered l := fun i r p h0 hr hp => by
  have := h i h0 (List.getElem?_eq_some_iff.1 hr).1
  rw [key_some hr, key_some hp] at this
  exact this

/-- What holds at the head of a round of the sifting up. -/
def Sift (gX base gh N : Nat) (w wr : World) (gg cap : Nat) (l : List Rid) (x : Rid) (k : Nat) : Prop :=
  ∃ L : List Rid, L.length = N ∧ k < N ∧ Up L k ∧ L.Perm (x :: l) ∧ Own wr base 33 (.slice (some ⟨gg, 0, none⟩) N cap) L ∧ wr.cell? ⟨gh, 0, none⟩ = some (.slice (some ⟨gg, 0, none⟩) N cap) ∧ wr.frozen? ⟨gh, 0, none⟩ = false ∧ Far base gh w wr ∧ base ≤ wr.heap.size ∧ gX ≠ gg ∧ gX < wr.heap.size ∧ wr.heap[gX]? = w.heap[gX]?

theorem sift_start {gX base gh n : Nat} {w W w1 : World} {v : Value} {l : List Rid} {x : Rid} {gg cap : Nat} (hn : n = l.length) (hgb : gh < base) (hb : base ≤ w.heap.size) (ho : Ord l) (hW : w.grownBy W none) (hlt : ∀ k, v.ownBlock = some k → base ≤ k)
    (hown : w1.ownsRow base 33 4 (.slice (some ⟨gg, 0, none⟩) (n + 1) cap) (n + 1) (rv l ++ [.int .i64 x.1, .int .u32 x.2.1, .int .u32 x.2.2.1, .int .u32 x.2.2.2])) (hg : W.grownBy w1 v.ownBlock) (hf : w1.frozen? ⟨gh, 0, none⟩ = false) (hc : w1.cell? ⟨gh, 0, none⟩ = some v) (hX1 : v.ownBlock ≠ some gX) (hX2 : gX < w.heap.size) (hX3 : gX ≠ gh) (hX4 : gX ≠ gg) :
    Sift gX base gh (n + 1) w (w1.setCell ⟨gh, 0, none⟩ (.slice (some ⟨gg, 0, none⟩) (n + 1) cap)) gg cap l x n := by
  have hs1 := hW.size
  have hs2 := hg.size
  have e : rv l ++ [.int .i64 x.1, .int .u32 x.2.1, .int .u32 x.2.2.1, .int .u32 x.2.2.2] = rv (l ++ [x]) := by rw [rv_append, rv_one]
  rw [e] at hown
  have hgg := (hown.lt gg rfl)
  refine ⟨l ++ [x], by simp [hn], by omega, by rw [hn]; exact Up.start ho x, (List.perm_append_comm (l₁ := l) (l₂ := [x])), ?_, ?_, ?_, ?_, ?_, hX4, ?_, ?_⟩
  · have h1 : Own w1 base 33 (.slice (some ⟨gg, 0, none⟩) (n + 1) cap) (l ++ [x]) := by
      unfold Own
      rw [List.length_append, List.length_singleton, ← hn]
      exact hown
    exact h1.kept (grown_set w1 gh 0 _) (fun k hk => by simp only [Value.ownBlock, Option.some.injEq] at hk; simp; omega)
  · rw [World.cell?_setCell_same _ _ _ (by rw [hc])]
  · rw [World.frozen?_setCell]; exact hf
  · exact (Far.none hW hb).trans ((Far.grown hg (by omega) (fun k hk => .inl (hlt k hk))).trans (Far.grown (grown_set w1 gh 0 _) (by omega) (fun k hk => .inr (by simpa using hk.symm))))
  · simp; omega
  · simp; omega
  · exact ((heap_setCell_other w1 ⟨gh, 0, none⟩ gX _ hX3).trans (hg.block gX (by omega) (fun e => hX1 e.symm))).trans (hW.block gX hX2 (by simp))

/-- The cells of two riders exchanged. -/
theorem own_swap {w3 : World} {base gg cap : Nat} {L : List Rid} {k pi : Nat} {r p : Rid} (hO : Own w3 base 33 (.slice (some ⟨gg, 0, none⟩) L.length cap) L) {W : World}
    (hW : W = (((((((((w3.setCell ⟨gg, k * 4, none⟩ (.int .i64 p.1)).setCell ⟨gg, k * 4 + 1, none⟩ (.int .u32 p.2.1)).setCell ⟨gg, k * 4 + 2, none⟩ (.int .u32 p.2.2.1)).setCell ⟨gg, k * 4 + 3, none⟩ (.int .u32 p.2.2.2)).setCell ⟨gg, pi * 4, none⟩ (.int .i64 r.1)).setCell ⟨gg, pi * 4 + 1, none⟩ (.int .u32 r.2.1)).setCell ⟨gg, pi * 4 + 2, none⟩ (.int .u32 r.2.2.1)).setCell ⟨gg, pi * 4 + 3, none⟩ (.int .u32 r.2.2.2))).drew) :
    Own W base 33 (.slice (some ⟨gg, 0, none⟩) L.length cap) (swap L k pi r p) ∧ w3.grownBy W (some gg) := by
  have h1 := hO.put k p
  have h1' : Own ((((w3.setCell ⟨gg, k * 4, none⟩ (.int .i64 p.1)).setCell ⟨gg, k * 4 + 1, none⟩ (.int .u32 p.2.1)).setCell ⟨gg, k * 4 + 2, none⟩ (.int .u32 p.2.2.1)).setCell ⟨gg, k * 4 + 3, none⟩ (.int .u32 p.2.2.2)) base 33 (.slice (some ⟨gg, 0, none⟩) (L.set k p).length cap) (L.set k p) := by
    rw [List.length_set]; exact h1
  have h2 := h1'.put pi r
  rw [List.length_set] at h2
  rw [hW]
  refine ⟨h2.keptN (grown_drew _ _), ?_⟩
  exact grown_trans (grown_trans (grown_trans (grown_trans (grown_trans (grown_trans (grown_trans (grown_trans (grown_set _ _ _ _) (grown_set _ _ _ _)) (grown_set _ _ _ _)) (grown_set _ _ _ _)) (grown_set _ _ _ _)) (grown_set _ _ _ _)) (grown_set _ _ _ _)) (grown_set _ _ _ _)) (grown_drew _ _)

theorem sift_swap {gX base gh N : Nat} {w w3 W : World} {gg cap : Nat} {l L : List Rid} {x r p : Rid} {k pi : Nat} (hO : Own w3 base 33 (.slice (some ⟨gg, 0, none⟩) L.length cap) L) (hr : L[k]? = some r) (hp : L[pi]? = some p) (hgb : gh < base)
    (hL : L.length = N) (hpk : pi < N) (hk1 : 0 < k) (hpi : pi = (k - 1) / 4) (hlt : r.1 < p.1) (hU : Up L k) (hP : L.Perm (x :: l)) (t1 : Far base gh w w3) (t2 : base ≤ w3.heap.size) (t3 : w3.frozen? ⟨gh, 0, none⟩ = false) (t4 : w3.cell? ⟨gh, 0, none⟩ = some (.slice (some ⟨gg, 0, none⟩) N cap)) (x1 : gX ≠ gg) (x2 : gX < w3.heap.size) (x3 : w3.heap[gX]? = w.heap[gX]?)
    (hW : W = (((((((((w3.setCell ⟨gg, k * 4, none⟩ (.int .i64 p.1)).setCell ⟨gg, k * 4 + 1, none⟩ (.int .u32 p.2.1)).setCell ⟨gg, k * 4 + 2, none⟩ (.int .u32 p.2.2.1)).setCell ⟨gg, k * 4 + 3, none⟩ (.int .u32 p.2.2.2)).setCell ⟨gg, pi * 4, none⟩ (.int .i64 r.1)).setCell ⟨gg, pi * 4 + 1, none⟩ (.int .u32 r.2.1)).setCell ⟨gg, pi * 4 + 2, none⟩ (.int .u32 r.2.2.1)).setCell ⟨gg, pi * 4 + 3, none⟩ (.int .u32 r.2.2.2))).drew) :
    Sift gX base gh N w W gg cap l x pi := by
  obtain ⟨s1, s2⟩ := own_swap hO hW
  have hgg := hO.lt
  have hne : some gh ≠ some gg := by simp; omega
  have c4 := s2.cell t4 hne
  have f4 : W.frozen? ⟨gh, 0, none⟩ = false := (World.frozen?_of_block (w := w3) (w' := W) (s2.block gh (World.block_lt_of_cell? w3 _ t4) hne)).trans t3
  refine ⟨swap L k pi r p, (swap_len _ _ _ _ _).trans hL, hpk, ?_, (swap_perm hr hp).trans hP, ?_, c4, f4, t1.trans (Far.grown s2 t2 (fun q hq => .inl ?_)), Nat.le_trans t2 s2.size, x1, Nat.lt_of_lt_of_le x2 s2.size, (s2.block gX x2 (by simpa using x1)).trans x3⟩
  · subst hpi; exact hU.step hk1 hr hp hlt
  · rw [← hL]; exact s1
  · simp only [Option.some.injEq] at hq; omega

theorem sift_stop {gX base gh N : Nat} {w wr W : World} {gg cap : Nat} {l L : List Rid} {x r p : Rid} {k pi : Nat} (hO : Own wr base 33 (.slice (some ⟨gg, 0, none⟩) L.length cap) L) (hr : L[k]? = some r) (hp : L[pi]? = some p) (hgb : gh < base)
    (hL : L.length = N) (hpi : pi = (k - 1) / 4) (hlt : ¬ r.1 < p.1) (hU : Up L k) (hP : L.Perm (x :: l)) (t1 : Far base gh w wr) (t2 : base ≤ wr.heap.size) (t3 : wr.frozen? ⟨gh, 0, none⟩ = false) (t4 : wr.cell? ⟨gh, 0, none⟩ = some (.slice (some ⟨gg, 0, none⟩) N cap)) (x2 : gX < wr.heap.size) (x3 : wr.heap[gX]? = w.heap[gX]?)
    (hg : wr.grownBy W none) : ∃ l', HeapOf W base gh l' ∧ l'.Perm (x :: l) ∧ Ordered l' ∧ Far base gh w W ∧ W.heap[gX]? = w.heap[gX]? := by
  refine ⟨L, ⟨hgb, (World.frozen?_of_block (w := wr) (w' := W) (hg.block gh (World.block_lt_of_cell? wr _ t4) (by simp))).trans t3, _, hg.cell t4 (by simp), ?_⟩, hP, ordered_of (hU.stop ?_), t1.trans (Far.none hg t2), (hg.block gX x2 (by simp)).trans x3⟩
  · rw [← hL]; exact hO.keptN hg
  · rw [← hpi, key_some hr, key_some hp]; exact hlt

set_option maxRecDepth 10000 in
set_option maxHeartbeats 8000000 in
theorem push_any (gX base gh n : Nat) (l : List Rid) (x : Rid) (HN : Hid (n = l.length)) (hn : n < 65536) (w : World) (h : HeapOf w base gh l) (hb : base ≤ w.heap.size) (ho : Ordered l) (hX1 : ∀ v k, w.cell? ⟨gh, 0, none⟩ = some v → v.ownBlock = some k → k ≠ gX) (hX2 : gX < w.heap.size) (hX3 : gX ≠ gh) :
    Calls Try.prog 11 #[.pointer (some ⟨gh, 0, none⟩), ra x] w fun e w' => e = .returned (.tuple #[]) ∧ ∃ l', HeapOf w' base gh l' ∧ l'.Perm (x :: l) ∧ Ordered l' ∧ Far base gh w w' ∧ w'.heap[gX]? = w.heap[gX]? := by
  obtain ⟨hgb, hfz, v, hv, hO⟩ := h
  obtain ⟨i33, q1, q2, q3, q4⟩ := info_parts Try.info33
  have HXX : Hid (v.ownBlock ≠ some gX ∧ gX < w.heap.size ∧ gX ≠ gh) := ⟨fun e => hX1 v gX hv e rfl, hX2, hX3⟩
  clear hX1 hX2 hX3
  have lh := World.block_lt_of_cell? w _ hv
  simp only at lh
  have hO1 : ∀ o o', (((w.alloc o).alloc o').drew).ownsRow base 33 4 v n (rv l) := fun o o' => by rw [HN.out]; exact ((World.ownsRow.alloc hO o).alloc o').drew
  have hnews : ∀ j u, ([.int .i64 x.1, .int .u32 x.2.1, .int .u32 x.2.2.1, .int .u32 x.2.2.2] : List Value)[j]? = some u → (((w.alloc (.cells #[.int .i64 x.1, .int .u32 x.2.1, .int .u32 x.2.2.1, .int .u32 x.2.2.2] 33)).alloc (.cells #[.int .i64 x.1, .int .u32 x.2.1, .int .u32 x.2.2.1, .int .u32 x.2.2.2] 33)).drew).cell? ((⟨w.heap.size + 1, 0, none⟩ : Addr).add j) = some u := by
    have hh : (((w.alloc (.cells #[.int .i64 x.1, .int .u32 x.2.1, .int .u32 x.2.2.1, .int .u32 x.2.2.2] 33)).alloc (.cells #[.int .i64 x.1, .int .u32 x.2.1, .int .u32 x.2.2.1, .int .u32 x.2.2.2] 33)).drew).heap[w.heap.size + 1]? = some (.cells #[.int .i64 x.1, .int .u32 x.2.1, .int .u32 x.2.2.1, .int .u32 x.2.2.2] 33 (0, 0)) := by
      have h := heap_alloc_new (w.alloc (.cells #[.int .i64 x.1, .int .u32 x.2.1, .int .u32 x.2.2.1, .int .u32 x.2.2.2] 33)) (.cells #[.int .i64 x.1, .int .u32 x.2.1, .int .u32 x.2.2.1, .int .u32 x.2.2.2] 33)
      rw [World.size_alloc] at h
      exact h
    exact World.news_of_block (cs := #[.int .i64 x.1, .int .u32 x.2.1, .int .u32 x.2.2.1, .int .u32 x.2.2.2]) hh
  have HNw : Hid _ := hnews
  have hown0 : ∀ k, v.ownBlock = some k → base ≤ k ∧ k < w.heap.size := World.ownsRow.lt hO
  have HOwn0 : Hid (∀ k, v.ownBlock = some k → base ≤ k ∧ k < w.heap.size) := hown0
  have hOB : Hid (some gh ≠ v.ownBlock) := fun e => by have := hown0 gh e.symm; omega
  have HO1 : Hid (∀ o o', (((w.alloc o).alloc o').drew).ownsRow base 33 4 v n (rv l)) := hO1
  clear hnews hown0 hO1
  have hmeth := method_of _ rfl
  go_enter Try.func11, Try.ntmps11
  go_wp2
  go_region_law ((refine step_append_lies _ (by rfl) _ _ _ (by rfl) base 33 i33 _ 4 24 Try.underlying25 q1 q2 q3 q4 rfl (by omega) v n (rv l) (by rfl) (HO1.out _ _) ⟨w.heap.size + 1, 0, none⟩ 1 1 [.int .i64 x.1, .int .u32 x.2.1, .int .u32 x.2.2.1, .int .u32 x.2.2.2] (by rfl) (by rfl) HNw.out (by simp [Value.oneCell']) (by omega) (by unfold maxLen; omega) (by omega) (by simp; omega) (w.heap.size + 2) (by simp) ?_; intro gg cap w1 hown1 hgrow hat hlt; have c1 : w1.cell? ⟨gh, 0, none⟩ = some v := (hgrow.cell_far ⟨gh, 0, none⟩ (by simp; omega) hOB.out).trans (by simp [hv, World.cell?_alloc_some]); have f1 : w1.frozen? ⟨gh, 0, none⟩ = false := (hgrow.frozen_far ⟨gh, 0, none⟩ (by simp; omega) hOB.out).trans (by rw [← hfz]; exact World.frozen?_of_block (show (((w.alloc _).alloc _).drew).heap[gh]? = w.heap[gh]? from (Below.heap_alloc _ _ gh (by simp; omega)).trans (Below.heap_alloc w _ gh lh)))))
  all_goals
    have HS : Hid (Sift gX base gh (n + 1) w (w1.setCell ⟨gh, 0, none⟩ (.slice (some ⟨gg, 0, none⟩) (n + 1) cap)) gg cap l x n) :=
      sift_start HN.out hgb hb (ord_of ho) (grown_trans (grown_alloc _ _ _) (grown_trans (grown_alloc _ _ _) (grown_drew _ _))) (fun k hk => (HOwn0.out k hk).1) hown1 hgrow f1 c1 HXX.out.1 HXX.out.2.1 HXX.out.2.2 (fun e => by rcases hat with h | h; exact HXX.out.1 (by rw [h, e]); have := HXX.out.2.1; omega)
    obtain ⟨w2, hw2⟩ : ∃ W, w1.setCell ⟨gh, 0, none⟩ (.slice (some ⟨gg, 0, none⟩) (n + 1) cap) = W := ⟨_, rfl⟩
    rw [hw2] at HS
    rw [hw2]
    clear hown1 hgrow hat hlt c1 f1 hw2 HNw HOwn0 hOB HO1 q1 q2 q3 q4 hO ho
    obtain ⟨N, hN⟩ : ∃ N, n + 1 = N := ⟨_, rfl⟩
    rw [hN] at HS
    rw [hN]
    have hcc : w2.cell? ⟨gh, 0, none⟩ = some (.slice (some ⟨gg, 0, none⟩) N cap) := by obtain ⟨L, _, _, _, _, _, h, _⟩ := HS.out; exact h
    have hN1 : (N : Int) - 1 = (n : Int) := by omega
    have hN2 : N ≤ 65536 := by omega
    clear hN
    go_wp2
    clear hcc hN1
    go_loopw [5] (fun i wr => ∃ k : Nat, i = .int .i64 k ∧ Sift gX base gh N w wr gg cap l x k) (fun i _ => (intOf i).toNat)
    case atStart => exact ⟨n, rfl, HS.out⟩
    case round =>
      clear HS
      obtain ⟨k, rfl, L, hL, hk, hU, hP, hOw, hcc, hff, hF, hbb, hx1, hx2, hx3⟩ := hrel
      have HXs : Hid (gX ≠ gg ∧ gX < wr.heap.size ∧ wr.heap[gX]? = w.heap[gX]?) := ⟨hx1, hx2, hx3⟩
      clear hx1 hx2 hx3
      by_cases hk0 : k = 0
      · subst hk0
        go_wp2
        go_end0
        exact ⟨rfl, L, ⟨hgb, hff, _, hcc, hOw⟩, hP, ordered_of hU.zero, hF, HXs.out.2.2⟩
      · have hk1 : 0 < k := by omega
        have hk1I : (0 : Int) < (k : Int) := by omega
        have hkI : (k : Int) < (N : Int) := by omega
        have hkI0 : (0 : Int) ≤ (k : Int) := by omega
        obtain ⟨pi, hpi⟩ : ∃ pi : Nat, pi = (k - 1) / 4 := ⟨_, rfl⟩
        have hpN : (pi : Int) < (N : Int) := by omega
        have hpI0 : (0 : Int) ≤ (pi : Int) := by omega
        have hpk : pi < k := by omega
        have HPi : Hid (((k : Int) - 1) / 4 = (pi : Int)) := by unfold Hid; omega
        have HPi2 : Hid (pi = (k - 1) / 4) := hpi
        have hq1 : k < L.length := by omega
        have hq2 : pi < L.length := by omega
        obtain ⟨r, hr⟩ : ∃ r, L[k]? = some r := ⟨_, List.getElem?_eq_getElem hq1⟩
        obtain ⟨p, hp⟩ : ∃ p, L[pi]? = some p := ⟨_, List.getElem?_eq_getElem hq2⟩
        have hOw' : Own wr base 33 (.slice (some ⟨gg, 0, none⟩) L.length cap) L := by rw [hL]; exact hOw
        obtain ⟨r0, r1, r2, r3⟩ := hOw'.cells k r hr
        obtain ⟨p0, p1, p2, p3⟩ := hOw'.cells pi p hp
        have lg := hOw'.lt.2
        have HQ : Hid (L.length = N ∧ k < N ∧ Up L k ∧ L.Perm (x :: l) ∧ Own wr base 33 (.slice (some ⟨gg, 0, none⟩) L.length cap) L ∧ Far base gh w wr ∧ base ≤ wr.heap.size ∧ wr.frozen? ⟨gh, 0, none⟩ = false ∧ wr.cell? ⟨gh, 0, none⟩ = some (.slice (some ⟨gg, 0, none⟩) N cap)) := ⟨hL, hk, hU, hP, hOw', hF, hbb, hff, hcc⟩
        have HRP : Hid (L[k]? = some r ∧ L[pi]? = some p) := ⟨hr, hp⟩
        clear hL hk hU hP hOw hOw' hF hbb hr hp hq1 hq2 hk0 hpi hff hcc
        by_cases hlt : r.1 < p.1
        · have hlt' : Hid (r.1 < p.1) := hlt
          go_wp2_with fail
          rw [HPi.out]
          go_region_held3 (fun w' => w'.cell? ⟨gg, k * 4, none⟩ = some (.int .i64 r.1) ∧ w'.cell? ⟨gg, k * 4 + 1, none⟩ = some (.int .u32 r.2.1) ∧ w'.cell? ⟨gg, k * 4 + 2, none⟩ = some (.int .u32 r.2.2.1) ∧ w'.cell? ⟨gg, k * 4 + 3, none⟩ = some (.int .u32 r.2.2.2) ∧
              w'.cell? ⟨gg, pi * 4, none⟩ = some (.int .i64 p.1) ∧ w'.cell? ⟨gg, pi * 4 + 1, none⟩ = some (.int .u32 p.2.1) ∧ w'.cell? ⟨gg, pi * 4 + 2, none⟩ = some (.int .u32 p.2.2.1) ∧ w'.cell? ⟨gg, pi * 4 + 3, none⟩ = some (.int .u32 p.2.2.2))
            (simp (maxDischargeDepth := 10) [World.cell?_alloc_some, r0, r1, r2, r3, p0, p1, p2, p3])
            (first | (go_at_call 17; refine (before_any r p _).mono ?_; rintro e w' ⟨rfl, rfl⟩))
          obtain ⟨w3, hw3⟩ : ∃ W, ((wr.alloc (.cells (rc r) 33)).alloc (.cells (rc p) 33)).drew = W := ⟨_, rfl⟩
          have hg3 : wr.grownBy w3 none := by rw [← hw3]; exact grown_trans (grown_alloc _ _ _) (grown_trans (grown_alloc _ _ _) (grown_drew _ _))
          rw [hw3]
          obtain ⟨hL, hk, hU, hP, hOw', hF, hbb, hff, hcc⟩ := HQ.out
          have hO3 := hOw'.keptN hg3
          obtain ⟨a0, a1, a2, a3⟩ := hO3.cells k r HRP.out.1
          obtain ⟨d0, d1, d2, d3⟩ := hO3.cells pi p HRP.out.2
          have e0 := hO3.free (k * 4)
          have e1 := hO3.free (k * 4 + 1)
          have e2 := hO3.free (k * 4 + 2)
          have e3 := hO3.free (k * 4 + 3)
          have f0 := hO3.free (pi * 4)
          have f1 := hO3.free (pi * 4 + 1)
          have f2 := hO3.free (pi * 4 + 2)
          have f3 := hO3.free (pi * 4 + 3)
          have HO3 : Hid (Own w3 base 33 (.slice (some ⟨gg, 0, none⟩) L.length cap) L) := hO3
          have HX3 : Hid (gX ≠ gg ∧ gX < w3.heap.size ∧ w3.heap[gX]? = w.heap[gX]?) := ⟨HXs.out.1, Nat.lt_of_lt_of_le HXs.out.2.1 hg3.size, (hg3.block gX HXs.out.2.1 (by simp)).trans HXs.out.2.2⟩
          have HF3 : Hid (Far base gh w w3 ∧ base ≤ w3.heap.size ∧ w3.frozen? ⟨gh, 0, none⟩ = false ∧ w3.cell? ⟨gh, 0, none⟩ = some (.slice (some ⟨gg, 0, none⟩) N cap)) :=
            ⟨hF.trans (Far.none hg3 hbb), Nat.le_trans hbb hg3.size, (World.frozen?_of_block (w := wr) (hg3.block gh (World.block_lt_of_cell? wr _ hcc) (by simp))).trans hff, hg3.cell hcc (by simp)⟩
          clear hw3 hg3 hL hk hU hP hOw' hF hbb hff hcc hO3 r0 r1 r2 r3 p0 p1 p2 p3 hlt
          go_wp2
          go_region
          go_wp2
          go_roundw
          case rel =>
            obtain ⟨hL, hk, hU, hP, -⟩ := HQ.out
            obtain ⟨t1, t2, t3, t4⟩ := HF3.out
            exact ⟨pi, rfl, sift_swap HO3.out HRP.out.1 HRP.out.2 hgb hL (by omega) hk1 HPi2.out hlt'.out hU hP t1 t2 t3 t4 HX3.out.1 HX3.out.2.1 HX3.out.2.2 rfl⟩
          case measure => simp [intOf]; omega
        · have hdec : decide (r.1 < p.1) = false := decide_eq_false hlt
          have hlt' : Hid (¬ r.1 < p.1) := hlt
          clear hlt
          go_wp2_with fail
          rw [HPi.out]
          go_region_held3 (fun w' => w'.cell? ⟨gg, k * 4, none⟩ = some (.int .i64 r.1) ∧ w'.cell? ⟨gg, k * 4 + 1, none⟩ = some (.int .u32 r.2.1) ∧ w'.cell? ⟨gg, k * 4 + 2, none⟩ = some (.int .u32 r.2.2.1) ∧ w'.cell? ⟨gg, k * 4 + 3, none⟩ = some (.int .u32 r.2.2.2) ∧
              w'.cell? ⟨gg, pi * 4, none⟩ = some (.int .i64 p.1) ∧ w'.cell? ⟨gg, pi * 4 + 1, none⟩ = some (.int .u32 p.2.1) ∧ w'.cell? ⟨gg, pi * 4 + 2, none⟩ = some (.int .u32 p.2.2.1) ∧ w'.cell? ⟨gg, pi * 4 + 3, none⟩ = some (.int .u32 p.2.2.2))
            (simp (maxDischargeDepth := 10) [World.cell?_alloc_some, r0, r1, r2, r3, p0, p1, p2, p3])
            (first | (go_at_call 17; refine (before_any r p _).mono ?_; rintro e w' ⟨rfl, rfl⟩))
          go_wp2
          go_end0
          obtain ⟨hL, hk, hU, hP, hOw', hF, hbb, hff, hcc⟩ := HQ.out
          exact ⟨rfl, sift_stop hOw' HRP.out.1 HRP.out.2 hgb hL HPi2.out (by have := hlt'.out; omega) hU hP hF hbb hff hcc HXs.out.2.1 HXs.out.2.2 (grown_trans (grown_alloc _ _ _) (grown_trans (grown_alloc _ _ _) (grown_drew _ _)))⟩

/-- 'ZZHeapPush' the same. -/
theorem zpush_any (gX base gh n : Nat) (l : List Rid) (x : Rid) (HN : Hid (n = l.length)) (hn : n < 65536) (w : World) (h : HeapOf w base gh l) (hb : base ≤ w.heap.size) (ho : Ordered l) (hX1 : ∀ v k, w.cell? ⟨gh, 0, none⟩ = some v → v.ownBlock = some k → k ≠ gX) (hX2 : gX < w.heap.size) (hX3 : gX ≠ gh) :
    Calls Try.prog 5 #[.pointer (some ⟨gh, 0, none⟩), ra x] w fun e w' => e = .returned (.tuple #[]) ∧ ∃ l', HeapOf w' base gh l' ∧ l'.Perm (x :: l) ∧ Ordered l' ∧ Far base gh w w' ∧ w'.heap[gX]? = w.heap[gX]? := by
  have hg := grown_alloc w (.cells (rc x) 33) none
  have H1 : Hid (HeapOf (w.alloc (.cells (rc x) 33)) base gh l) := h.kept hg
  have HB : Hid (base ≤ (w.alloc (.cells (rc x) 33)).heap.size) := Nat.le_trans hb hg.size
  have HF : Hid (Far base gh w (w.alloc (.cells (rc x) 33))) := Far.none hg hb
  have HO : Hid (Ordered l) := ho
  have HX1 : Hid (∀ v k, (w.alloc (.cells (rc x) 33)).cell? ⟨gh, 0, none⟩ = some v → v.ownBlock = some k → k ≠ gX) := by
    intro v k hv hk
    obtain ⟨_, _, v', h3, h4⟩ := h
    have e := hg.cell h3 (by simp)
    rw [e] at hv
    simp only [Option.some.injEq] at hv
    subst hv
    exact hX1 v' k h3 hk
  have HX2 : Hid (gX < (w.alloc (.cells (rc x) 33)).heap.size ∧ gX ≠ gh ∧ (w.alloc (.cells (rc x) 33)).heap[gX]? = w.heap[gX]?) := ⟨Nat.lt_of_lt_of_le hX2 hg.size, hX3, hg.block gX hX2 (by simp)⟩
  clear h hb ho hg hX1 hX2 hX3
  go_enter Try.func5, Try.ntmps5
  go_wp2_with fail
  refine (push_any gX base gh n l x HN hn _ H1.out HB.out HO.out HX1.out HX2.out.1 HX2.out.2.1).mono ?_
  rintro e w' ⟨rfl, l', h1, h2, h3, h4, h5⟩
  have HR : Hid (∃ l', HeapOf w' base gh l' ∧ l'.Perm (x :: l) ∧ Ordered l' ∧ Far base gh w w' ∧ w'.heap[gX]? = w.heap[gX]?) := ⟨l', h1, h2, h3, HF.out.trans h4, h5.trans HX2.out.2.2⟩
  clear h1 h2 h3 h4 h5
  go_wp2_with fail
  go_end0
  exact ⟨rfl, HR.out⟩
end Go.Proofs.Qxb6003817a
