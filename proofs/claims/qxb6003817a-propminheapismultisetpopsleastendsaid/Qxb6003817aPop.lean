/-
  'pop' by its contract.
-/
import Derived.Test.Qxb6003817aPush
import Derived.Test.Qxb6003817aPlain3
import Derived.Deep.Cut
namespace Go.Proofs.Qxb6003817a
open Go.RowKit

theorem rv_take (l : List Rid) : ∀ n, (rv l).take (n * 4) = rv (l.take n) := by
  induction l with
  | nil => intro n; simp [rv]
  | cons r l ih =>
    intro n
    cases n with
    | zero => simp [rv]
    | succ n => rw [List.take_succ_cons, rv_cons, rv_cons, show (n + 1) * 4 = n * 4 + 1 + 1 + 1 + 1 by omega]; simp only [List.take_succ_cons]; rw [ih n]

/-- A slice cut at its end. -/
theorem Own.cut {w : World} {base : Nat} {e : TypeId} {l : List Rid} {g cap m : Nat} (h : Own w base e (.slice (some ⟨g, 0, none⟩) l.length cap) l) (hm : m ≤ l.length) : Own w base e (.slice (some ⟨g, 0, none⟩) m cap) (l.take m) := by
  have h0 : w.ownsRow base e 4 (.slice (some ⟨g, 0, none⟩) l.length cap) l.length (rv l) := h
  rcases h0.2 with ⟨h', _⟩ | ⟨g', cap', cur, h', hb, hg, hnc, hcm, hcs, ht⟩
  · simp at h'
  · simp only [Value.slice.injEq, Option.some.injEq, Addr.mk.injEq, and_true, true_and] at h'
    obtain ⟨rfl, rfl⟩ := h'
    have hl : (l.take m).length = m := by simp; omega
    unfold Own
    rw [hl]
    refine ⟨by rw [rv_len, hl], .inr ⟨g, cap, cur, rfl, hb, hg, by omega, hcm, hcs, ?_⟩⟩
    rw [← rv_take, ← ht, List.take_take]
    congr 1
    omega

/-- What holds at the head of a round of the sifting down. -/
def Sink (gX base gh M : Nat) (w wr : World) (g cap gT gV : Nat) (l : List Rid) (t : Rid) (k : Nat) : Prop :=
  ∃ L : List Rid, L.length = M ∧ (k < M ∨ (M = 0 ∧ k = 0)) ∧ Down L k ∧ l.Perm (t :: L) ∧ Own wr base 33 (.slice (some ⟨g, 0, none⟩) M cap) L ∧ wr.cell? ⟨gh, 0, none⟩ = some (.slice (some ⟨g, 0, none⟩) M cap) ∧ wr.frozen? ⟨gh, 0, none⟩ = false ∧ Far base gh w wr ∧ base ≤ wr.heap.size ∧
    wr.heap[gT]? = some (.cells (rc t) 33 (0, 0)) ∧ (∃ c, wr.heap[gV]? = some (.cells c 33 (0, 0)) ∧ c.size = 4) ∧ gT ≠ g ∧ gV ≠ g ∧ gT ≠ gV ∧ base ≤ gV ∧ gX ≠ g ∧ gX ≠ gV ∧ gX < wr.heap.size ∧ wr.heap[gX]? = w.heap[gX]?

/-- The world behind 's[0] = s[last]'. -/
theorem pop_mid1 {w W : World} {gX base gh g cap n : Nat} {l : List Rid} {t z : Rid} (hO : Own w base 33 (.slice (some ⟨g, 0, none⟩) l.length cap) l) (hgb : gh < base) (hb : base ≤ w.heap.size) (hfz : w.frozen? ⟨gh, 0, none⟩ = false)
    (hv : w.cell? ⟨gh, 0, none⟩ = some (.slice (some ⟨g, 0, none⟩) n cap)) (hX1 : gX ≠ g) (hX2 : gX < w.heap.size)
    (hW : W = (((((w.setCell ⟨g, 0, none⟩ (.int .i64 z.1)).setCell ⟨g, 1, none⟩ (.int .u32 z.2.1)).setCell ⟨g, 2, none⟩ (.int .u32 z.2.2.1)).setCell ⟨g, 3, none⟩ (.int .u32 z.2.2.2)).alloc (.cells #[.int .i64 0, .int .u32 0, .int .u32 0, .int .u32 0] 33)).alloc (.cells #[.int .i64 t.1, .int .u32 t.2.1, .int .u32 t.2.2.1, .int .u32 t.2.2.2] 33)) :
    Own W base 33 (.slice (some ⟨g, 0, none⟩) (l.set 0 z).length cap) (l.set 0 z) ∧ W.heap[w.heap.size + 1]? = some (.cells (rc t) 33 (0, 0)) ∧ W.heap[w.heap.size]? = some (.cells #[.int .i64 0, .int .u32 0, .int .u32 0, .int .u32 0] 33 (0, 0)) ∧
      W.cell? ⟨gh, 0, none⟩ = some (.slice (some ⟨g, 0, none⟩) n cap) ∧ W.frozen? ⟨gh, 0, none⟩ = false ∧ Far base gh w W ∧ W.heap.size = w.heap.size + 2 ∧ W.heap[gX]? = w.heap[gX]? := by
  have hgg := hO.lt
  have h1 := hO.put 0 z
  simp only [Nat.zero_mul, Nat.zero_add] at h1
  generalize hA : (((w.setCell ⟨g, 0, none⟩ (.int .i64 z.1)).setCell ⟨g, 1, none⟩ (.int .u32 z.2.1)).setCell ⟨g, 2, none⟩ (.int .u32 z.2.2.1)).setCell ⟨g, 3, none⟩ (.int .u32 z.2.2.2) = A at h1 hW
  have gA : w.grownBy A (some g) := by rw [← hA]; exact grown_trans (grown_trans (grown_trans (grown_set _ _ _ _) (grown_set _ _ _ _)) (grown_set _ _ _ _)) (grown_set _ _ _ _)
  have sA : A.heap.size = w.heap.size := by rw [← hA]; simp
  have gW : A.grownBy W none := by rw [hW]; exact grown_trans (grown_alloc _ _ _) (grown_alloc _ _ _)
  have hne : some gh ≠ some g := by simp; omega
  have cA := gA.cell hv hne
  have fA : A.frozen? ⟨gh, 0, none⟩ = false := (World.frozen?_of_block (w := w) (w' := A) (gA.block gh (World.block_lt_of_cell? w _ hv) hne)).trans hfz
  refine ⟨?_, ?_, ?_, gW.cell cA (by simp), (World.frozen?_of_block (w := A) (w' := W) (gW.block gh (World.block_lt_of_cell? A _ cA) (by simp))).trans fA, (Far.grown gA hb (fun k hk => .inl (by simp only [Option.some.injEq] at hk; omega))).trans (Far.none gW (by omega)), by rw [hW]; simp [sA], (gW.block gX (by omega) (by simp)).trans (gA.block gX hX2 (by simpa using hX1))⟩
  · rw [List.length_set]; exact h1.keptN gW
  · have h := heap_alloc_new (A.alloc (.cells #[.int .i64 0, .int .u32 0, .int .u32 0, .int .u32 0] 33)) (.cells #[.int .i64 t.1, .int .u32 t.2.1, .int .u32 t.2.2.1, .int .u32 t.2.2.2] 33)
    rw [World.size_alloc, sA, ← hW] at h
    exact h
  · have h := heap_alloc_new A (.cells #[.int .i64 0, .int .u32 0, .int .u32 0, .int .u32 0] 33)
    have h2 := Below.heap_alloc (A.alloc (.cells #[.int .i64 0, .int .u32 0, .int .u32 0, .int .u32 0] 33)) (.cells #[.int .i64 t.1, .int .u32 t.2.1, .int .u32 t.2.2.1, .int .u32 t.2.2.2] 33) A.heap.size (by simp)
    rw [← hW] at h2
    rw [← sA]
    exact h2.trans h

/-- The world ahead of the sifting down. -/
theorem pop_mid2 {w Wa W : World} {gX base gh g cap q : Nat} {l : List Rid} {t z : Rid} (hA : Own Wa base 33 (.slice (some ⟨g, 0, none⟩) (l.set 0 z).length cap) (l.set 0 z)) (hq : l.length = q + 1) (hgb : gh < base) (hb : base ≤ w.heap.size) (hlg : g < w.heap.size)
    (hT : Wa.heap[w.heap.size + 1]? = some (.cells (rc t) 33 (0, 0))) (hV : Wa.heap[w.heap.size]? = some (.cells #[.int .i64 0, .int .u32 0, .int .u32 0, .int .u32 0] 33 (0, 0))) (hF : Far base gh w Wa) (hs : Wa.heap.size = w.heap.size + 2) (hfz : Wa.frozen? ⟨gh, 0, none⟩ = false) {vv : Value} (hv : Wa.cell? ⟨gh, 0, none⟩ = some vv)
    (ht : l[0]? = some t) (hz : l[l.length - 1]? = some z) (ho : Ord l) (hX1 : gX ≠ g) (hX2 : gX < w.heap.size) (hX3 : gX ≠ gh) (hX4 : Wa.heap[gX]? = w.heap[gX]?)
    (hW : W = (((((Wa.setCell ⟨g, q * 4, none⟩ (.int .i64 0)).setCell ⟨g, q * 4 + 1, none⟩ (.int .u32 0)).setCell ⟨g, q * 4 + 2, none⟩ (.int .u32 0)).setCell ⟨g, q * 4 + 3, none⟩ (.int .u32 0)).setCell ⟨gh, 0, none⟩ (.slice (some ⟨g, 0, none⟩) q cap)).alloc (.cells #[.int .i64 0, .int .u32 0, .int .u32 0, .int .u32 0] 33)) :
    Sink gX base gh q w W g cap (w.heap.size + 1) w.heap.size l t 0 := by
  have hgg := hA.lt
  have h1 := hA.put q (0, 0, 0, 0)
  generalize hB : (((Wa.setCell ⟨g, q * 4, none⟩ (.int .i64 ((0, 0, 0, 0) : Rid).1)).setCell ⟨g, q * 4 + 1, none⟩ (.int .u32 ((0, 0, 0, 0) : Rid).2.1)).setCell ⟨g, q * 4 + 2, none⟩ (.int .u32 ((0, 0, 0, 0) : Rid).2.2.1)).setCell ⟨g, q * 4 + 3, none⟩ (.int .u32 ((0, 0, 0, 0) : Rid).2.2.2) = B at h1
  have hW' : W = (B.setCell ⟨gh, 0, none⟩ (.slice (some ⟨g, 0, none⟩) q cap)).alloc (.cells #[.int .i64 0, .int .u32 0, .int .u32 0, .int .u32 0] 33) := by rw [hW, ← hB]
  have gB : Wa.grownBy B (some g) := by rw [← hB]; exact grown_trans (grown_trans (grown_trans (grown_set _ _ _ _) (grown_set _ _ _ _)) (grown_set _ _ _ _)) (grown_set _ _ _ _)
  have sB : B.heap.size = Wa.heap.size := by rw [← hB]; simp
  clear hB hW
  have hne : some gh ≠ some g := by simp; omega
  have cB := gB.cell hv hne
  have fB : B.frozen? ⟨gh, 0, none⟩ = false := (World.frozen?_of_block (w := Wa) (w' := B) (gB.block gh (World.block_lt_of_cell? Wa _ hv) hne)).trans hfz
  generalize hC : B.setCell ⟨gh, 0, none⟩ (.slice (some ⟨g, 0, none⟩) q cap) = C at hW'
  have gC : B.grownBy C (some gh) := by rw [← hC]; exact grown_set _ _ _ _
  have cC : C.cell? ⟨gh, 0, none⟩ = some (.slice (some ⟨g, 0, none⟩) q cap) := by rw [← hC, World.cell?_setCell_same _ _ _ (by rw [cB])]
  have fC : C.frozen? ⟨gh, 0, none⟩ = false := by rw [← hC, World.frozen?_setCell]; exact fB
  have sC : C.heap.size = B.heap.size := by rw [← hC]; simp
  have gW : C.grownBy W none := by rw [hW']; exact grown_alloc _ _ _
  clear hC hW'
  have h2 : Own B base 33 (.slice (some ⟨g, 0, none⟩) ((l.set 0 z).set q (0, 0, 0, 0)).length cap) ((l.set 0 z).set q (0, 0, 0, 0)) := by rw [List.length_set]; exact h1
  have h3 := h2.cut (m := q) (by simp; omega)
  have e3 : ((l.set 0 z).set q (0, 0, 0, 0)).take q = popped l z := by
    unfold popped
    rw [show l.length - 1 = q by omega, List.take_set_of_le (Nat.le_refl q)]
  rw [e3] at h3
  have h4 : Own C base 33 (.slice (some ⟨g, 0, none⟩) q cap) (popped l z) := h3.kept gC (fun k hk e => by simp only [Value.ownBlock, Option.some.injEq] at hk e; omega)
  have bl : ∀ k, k < Wa.heap.size → k ≠ g → k ≠ gh → W.heap[k]? = Wa.heap[k]? := fun k h1 h2 h3 => ((gW.block k (by omega) (by simp)).trans (gC.block k (by omega) (by simpa using h3))).trans (gB.block k h1 (by simpa using h2))
  refine ⟨popped l z, by rw [popped_len]; omega, by omega, popped_down ho, popped_perm ht hz, h4.keptN gW, gW.cell cC (by simp), (World.frozen?_of_block (w := C) (w' := W) (gW.block gh (World.block_lt_of_cell? C _ cC) (by simp))).trans fC, ?_, ?_, ?_, ?_, ?_, ?_, ?_, hb, hX1, by omega, ?_, (bl gX (by omega) hX1 hX3).trans hX4⟩
  · exact hF.trans ((Far.grown gB (by omega) (fun k hk => .inl (by simp only [Option.some.injEq] at hk; omega))).trans ((Far.grown gC (by omega) (fun k hk => .inr (by simpa using hk.symm))).trans (Far.none gW (by omega))))
  · have := gW.size; omega
  · rw [bl _ (by omega) (by omega) (by omega)]; exact hT
  · exact ⟨_, by rw [bl _ (by omega) (by omega) (by omega)]; exact hV, rfl⟩
  · omega
  · omega
  · omega
  · have := gW.size; omega

/-- What is told of the sifting down at one list. -/
def SinkL (gX base gh M : Nat) (w wr : World) (g cap gT gV : Nat) (l : List Rid) (t : Rid) (k : Nat) (L : List Rid) : Prop :=
  L.length = M ∧ (k < M ∨ (M = 0 ∧ k = 0)) ∧ Down L k ∧ l.Perm (t :: L) ∧ Own wr base 33 (.slice (some ⟨g, 0, none⟩) M cap) L ∧ wr.cell? ⟨gh, 0, none⟩ = some (.slice (some ⟨g, 0, none⟩) M cap) ∧ wr.frozen? ⟨gh, 0, none⟩ = false ∧ Far base gh w wr ∧ base ≤ wr.heap.size ∧
    wr.heap[gT]? = some (.cells (rc t) 33 (0, 0)) ∧ (∃ c, wr.heap[gV]? = some (.cells c 33 (0, 0)) ∧ c.size = 4) ∧ gT ≠ g ∧ gV ≠ g ∧ gT ≠ gV ∧ base ≤ gV ∧ gX ≠ g ∧ gX ≠ gV ∧ gX < wr.heap.size ∧ wr.heap[gX]? = w.heap[gX]?

theorem SinkL.kept {gX base gh M : Nat} {w wr wq : World} {g cap gT gV : Nat} {l : List Rid} {t : Rid} {k : Nat} {L : List Rid} (h : SinkL gX base gh M w wr g cap gT gV l t k L) (hg : wr.grownBy wq none) : SinkL gX base gh M w wq g cap gT gV l t k L := by
  obtain ⟨a1, a2, a3, a4, a5, a6, a7, a8, a9, b1, ⟨c, b2, b2'⟩, b3, b4, b5, b6, b7, b8, b9, b10⟩ := h
  refine ⟨a1, a2, a3, a4, a5.keptN hg, hg.cell a6 (by simp), (World.frozen?_of_block (w := wr) (w' := wq) (hg.block gh (World.block_lt_of_cell? wr _ a6) (by simp))).trans a7, a8.trans (Far.none hg a9), Nat.le_trans a9 hg.size, ?_, ⟨c, ?_, b2'⟩, b3, b4, b5, b6, b7, b8, Nat.lt_of_lt_of_le b9 hg.size, (hg.block gX b9 (by simp)).trans b10⟩
  · rw [hg.block gT (Array.getElem?_eq_some_iff.1 b1).1 (by simp)]; exact b1
  · rw [hg.block gV (Array.getElem?_eq_some_iff.1 b2).1 (by simp)]; exact b2

theorem SinkL.swap_ {gX base gh M : Nat} {w w3 W : World} {g cap gT gV : Nat} {l : List Rid} {t : Rid} {k m : Nat} {L : List Rid} {rk rm : Rid} (h : SinkL gX base gh M w w3 g cap gT gV l t k L) (hgb : gh < base) (hk : L[k]? = some rk) (hm : L[m]? = some rm) (hmk : m ≠ k) (hp : (m - 1) / 4 = k ∧ 0 < m) (h1 : ¬ key L k < key L m)
    (h2 : ∀ i, 0 < i → (i - 1) / 4 = k → i < L.length → ¬ key L i < key L m)
    (hW : W = (((((((((w3.setCell ⟨g, k * 4, none⟩ (.int .i64 rm.1)).setCell ⟨g, k * 4 + 1, none⟩ (.int .u32 rm.2.1)).setCell ⟨g, k * 4 + 2, none⟩ (.int .u32 rm.2.2.1)).setCell ⟨g, k * 4 + 3, none⟩ (.int .u32 rm.2.2.2)).setCell ⟨g, m * 4, none⟩ (.int .i64 rk.1)).setCell ⟨g, m * 4 + 1, none⟩ (.int .u32 rk.2.1)).setCell ⟨g, m * 4 + 2, none⟩ (.int .u32 rk.2.2.1)).setCell ⟨g, m * 4 + 3, none⟩ (.int .u32 rk.2.2.2))).drew) :
    Sink gX base gh M w W g cap gT gV l t m := by
  obtain ⟨a1, a2, a3, a4, a5, a6, a7, a8, a9, b1, ⟨c, b2, b2'⟩, b3, b4, b5, b6, b7, b8, b9, b10⟩ := h
  have a5' : Own w3 base 33 (.slice (some ⟨g, 0, none⟩) L.length cap) L := by rw [a1]; exact a5
  obtain ⟨s1, s2⟩ := own_swap a5' hW
  have hgg := a5'.lt
  have hlm := (List.getElem?_eq_some_iff.1 hm).1
  have hne : some gh ≠ some g := by simp; omega
  refine ⟨swap L k m rk rm, (swap_len _ _ _ _ _).trans a1, .inl (by omega), a3.step hk hm hmk hp h1 h2, a4.trans ((swap_perm hk hm).symm.cons t), by rw [← a1]; exact s1, s2.cell a6 hne, (World.frozen?_of_block (w := w3) (w' := W) (s2.block gh (World.block_lt_of_cell? w3 _ a6) hne)).trans a7, a8.trans (Far.grown s2 a9 (fun q hq => .inl (by simp only [Option.some.injEq] at hq; omega))), Nat.le_trans a9 s2.size, ?_, ⟨c, ?_, b2'⟩, b3, b4, b5, b6, b7, b8, Nat.lt_of_lt_of_le b9 s2.size, (s2.block gX b9 (by simpa using b7)).trans b10⟩
  · rw [s2.block gT (Array.getElem?_eq_some_iff.1 b1).1 (by simpa using b3)]; exact b1
  · rw [s2.block gV (Array.getElem?_eq_some_iff.1 b2).1 (by simpa using b4)]; exact b2

theorem SinkL.end_ {gX base gh M : Nat} {w w3 W : World} {g cap gT gV : Nat} {l : List Rid} {t : Rid} {k : Nat} {L : List Rid} (h : SinkL gX base gh M w w3 g cap gT gV l t k L) (hgb : gh < base)
    (h2 : ∀ i, 0 < i → (i - 1) / 4 = k → i < L.length → ¬ key L i < key L k) (hg : w3.grownBy W (some gV)) : ∃ l', HeapOf W base gh l' ∧ l.Perm (t :: l') ∧ Ordered l' ∧ Far base gh w W ∧ W.heap[gX]? = w.heap[gX]? ∧ (∀ v k, W.cell? ⟨gh, 0, none⟩ = some v → v.ownBlock = some k → k ≠ gX) := by
  obtain ⟨a1, a2, a3, a4, a5, a6, a7, a8, a9, b1, _, b3, b4, b5, b6, b7, b8, b9, b10⟩ := h
  have hne : some gh ≠ some gV := by simp; omega
  refine ⟨L, ⟨hgb, (World.frozen?_of_block (w := w3) (w' := W) (hg.block gh (World.block_lt_of_cell? w3 _ a6) hne)).trans a7, _, hg.cell a6 hne, ?_⟩, a4, ordered_of (a3.stop h2), a8.trans (Far.grown hg a9 (fun q hq => .inl (by simp only [Option.some.injEq] at hq; omega))), (hg.block gX b9 (by simpa using b8)).trans b10, fun v k hv hk => ?_⟩
  rotate_left
  · rw [hg.cell a6 hne] at hv
    simp only [Option.some.injEq] at hv
    subst hv
    simp only [Value.ownBlock, Option.some.injEq] at hk
    omega
  exact a5.kept hg (fun k hk e => by simp only [Value.ownBlock, Option.some.injEq] at hk e; omega)

set_option maxRecDepth 10000 in
set_option maxHeartbeats 8000000 in
theorem pop_any (gX base gh n : Nat) (l : List Rid) (t : Rid) (HN : Hid (n = l.length)) (hn : n ≤ 65536) (ht : l[0]? = some t) (w : World) (h : HeapOf w base gh l) (hb : base ≤ w.heap.size) (ho : Ordered l) (hX1 : ∀ v k, w.cell? ⟨gh, 0, none⟩ = some v → v.ownBlock = some k → k ≠ gX) (hX2 : gX < w.heap.size) (hX3 : gX ≠ gh) :
    Calls Try.prog 12 #[.pointer (some ⟨gh, 0, none⟩)] w fun e w' => e = .returned (ra t) ∧ ∃ l', HeapOf w' base gh l' ∧ l.Perm (t :: l') ∧ Ordered l' ∧ Far base gh w w' ∧ w'.heap[gX]? = w.heap[gX]? ∧ (∀ v k, w'.cell? ⟨gh, 0, none⟩ = some v → v.ownBlock = some k → k ≠ gX) := by
  have hmeth := method_of _ rfl
  have hn0 : 0 < l.length := (List.getElem?_eq_some_iff.1 ht).1
  have hn1 : 0 < n := by rw [HN.out]; exact hn0
  obtain ⟨hgb, hfz, v, hv, hO⟩ := h
  obtain ⟨g, cap, rfl, hbg, lg⟩ := hO.form hn0
  have lh := World.block_lt_of_cell? w _ hv
  simp only at lh
  have hXg : gX ≠ g := fun e => hX1 _ g hv rfl e.symm
  have HXX : Hid (gX ≠ g ∧ gX < w.heap.size ∧ gX ≠ gh) := ⟨hXg, hX2, hX3⟩
  clear hX1 hX2 hX3 hXg
  obtain ⟨z, hz⟩ : ∃ z, l[n - 1]? = some z := ⟨_, List.getElem?_eq_getElem (by rw [← HN.out]; omega)⟩
  obtain ⟨t0, t1, t2, t3⟩ := hO.cells 0 t ht
  obtain ⟨z0, z1, z2, z3⟩ := hO.cells (n - 1) z hz
  have fr := fun j => hO.free j
  have hcap : n ≤ cap := by
    rcases hO.2 with ⟨h', _⟩ | ⟨g', cap', cur, h', _, _, hc, _⟩
    · simp at h'
    · simp only [Value.slice.injEq, Option.some.injEq, Addr.mk.injEq, and_true, true_and] at h'
      rw [h'.2, HN.out]; exact hc
  rw [← HN.out] at hv
  have HO : Hid (Own w base 33 (.slice (some ⟨g, 0, none⟩) l.length cap) l) := hO
  have hne : ¬ g = gh := by omega
  have hne2 : ¬ gh = g := by omega
  obtain ⟨q, hq⟩ : ∃ q, n - 1 = q := ⟨_, rfl⟩
  rw [hq] at z0 z1 z2 z3
  have hqn : n = q + 1 := by omega
  have HQn : Hid (n = q + 1) := hqn
  have hqI : (n : Int) - 1 = (q : Int) := by omega
  have hqn2 : (q : Int) < (n : Int) := by omega
  have hqc : (q : Int) ≤ (cap : Int) := by omega
  have hn1I : (0 : Int) < (n : Int) := by omega
  clear hqn hq hO
  simp only [Nat.zero_mul, Nat.zero_add] at t0 t1 t2 t3
  go_enter Try.func12, Try.ntmps12
  go_upto_region 4 with fail
  obtain ⟨Wa, hWa⟩ : ∃ W, W = (((((w.setCell ⟨g, 0, none⟩ (.int .i64 z.1)).setCell ⟨g, 1, none⟩ (.int .u32 z.2.1)).setCell ⟨g, 2, none⟩ (.int .u32 z.2.2.1)).setCell ⟨g, 3, none⟩ (.int .u32 z.2.2.2)).alloc (.cells #[.int .i64 0, .int .u32 0, .int .u32 0, .int .u32 0] 33)).alloc (.cells #[.int .i64 t.1, .int .u32 t.2.1, .int .u32 t.2.2.1, .int .u32 t.2.2.2] 33) := ⟨_, rfl⟩
  obtain ⟨m1, m2, m3, m4, m5, m6, m7, m8⟩ := pop_mid1 HO.out hgb hb hfz hv HXX.out.1 HXX.out.2.1 hWa
  rw [← hWa]
  have HA : Hid (Own Wa base 33 (.slice (some ⟨g, 0, none⟩) (l.set 0 z).length cap) (l.set 0 z)) := m1
  obtain ⟨y, hy⟩ : ∃ y, (l.set 0 z)[q]? = some y := ⟨_, List.getElem?_eq_getElem (by rw [List.length_set, ← HN.out]; omega)⟩
  obtain ⟨y0, y1, y2, y3⟩ := m1.cells q y hy
  have u0 := m1.free (q * 4)
  have u1 := m1.free (q * 4 + 1)
  have u2 := m1.free (q * 4 + 2)
  have u3 := m1.free (q * 4 + 3)
  have lg2 := m1.lt.2
  have HM : Hid (Wa.heap[w.heap.size + 1]? = some (.cells (rc t) 33 (0, 0)) ∧ Wa.heap[w.heap.size]? = some (.cells #[.int .i64 0, .int .u32 0, .int .u32 0, .int .u32 0] 33 (0, 0)) ∧ Far base gh w Wa ∧ Wa.heap.size = w.heap.size + 2 ∧ Wa.frozen? ⟨gh, 0, none⟩ = false ∧ Wa.cell? ⟨gh, 0, none⟩ = some (.slice (some ⟨g, 0, none⟩) n cap) ∧ Wa.heap[gX]? = w.heap[gX]?) := ⟨m2, m3, m6, m7, m5, m4, m8⟩
  have lgh : gh < Wa.heap.size := World.block_lt_of_cell? Wa _ m4
  have HZ : Hid (l[n - 1]? = some z ∧ l[0]? = some t) := ⟨hz, ht⟩
  clear hWa m1 m2 m3 m6 m7 m8 hy t0 t1 t2 t3 z0 z1 z2 z3 hz ht fr hfz hv
  go_upto_region 8 with fail
  obtain ⟨Wb, hWb⟩ : ∃ W, W = (((((Wa.setCell ⟨g, q * 4, none⟩ (.int .i64 0)).setCell ⟨g, q * 4 + 1, none⟩ (.int .u32 0)).setCell ⟨g, q * 4 + 2, none⟩ (.int .u32 0)).setCell ⟨g, q * 4 + 3, none⟩ (.int .u32 0)).setCell ⟨gh, 0, none⟩ (.slice (some ⟨g, 0, none⟩) q cap)).alloc (.cells #[.int .i64 0, .int .u32 0, .int .u32 0, .int .u32 0] 33) := ⟨_, rfl⟩
  have HS : Hid (Sink gX base gh q w Wb g cap (w.heap.size + 1) w.heap.size l t 0) := by
    obtain ⟨m2, m3, m6, m7, m5, m4, m8⟩ := HM.out
    exact pop_mid2 HA.out (by rw [← HN.out]; exact HQn.out) hgb hb lg m2 m3 m6 m7 m5 m4 HZ.out.2 (by rw [← HN.out]; exact HZ.out.1) (ord_of ho) HXX.out.1 HXX.out.2.1 HXX.out.2.2 m8 hWb
  rw [← hWb]
  obtain ⟨gT, GT⟩ : ∃ g, Hid (w.heap.size + 1 = g) := ⟨_, rfl⟩
  obtain ⟨gV, GV⟩ : ∃ g, Hid (w.heap.size = g) := ⟨_, rfl⟩
  rw [GT.out, GV.out] at HS
  rw [GT.out, GV.out]
  clear hWb HA HM HZ ho m4 m5 y0 y1 y2 y3 u0 u1 u2 u3 lg2 lgh HO
  have hq2 : q ≤ 65536 := by omega
  go_wp2
  go_loopw [7] (fun i wr => ∃ k : Nat, i = .int .i64 k ∧ Sink gX base gh q w wr g cap gT gV l t k) (fun i _ => q - (intOf i).toNat)
  case atStart => exact ⟨0, rfl, HS.out⟩
  case round =>
    clear HS
    obtain ⟨k, rfl, L, hS⟩ := hrel
    have HSk : Hid (SinkL gX base gh q w wr g cap gT gV l t k L) := hS
    have hk0 : k < q ∨ (q = 0 ∧ k = 0) := hS.2.1
    have hkq : k ≤ 65536 := by omega
    clear hS
    obtain ⟨wo, rfl⟩ : ∃ wo : World, wo = wr := ⟨_, rfl⟩
    go_wp2
    go_loopw [8, 9] (fun sm sc wq => ∃ m c : Nat, sm = .int .i64 m ∧ sc = .int .i64 c ∧ 4 * k + 1 ≤ c ∧ c ≤ 4 * k + 5 ∧ (m = k ∨ ((m - 1) / 4 = k ∧ 0 < m ∧ m < q)) ∧ ¬ key L k < key L m ∧ (∀ i, 0 < i → i < c → (i - 1) / 4 = k → i < q → ¬ key L i < key L m) ∧ wo.grownBy wq none) (fun _ sc _ => 4 * k + 5 - (intOf sc).toNat)
    case atStart => exact ⟨k, 4 * k + 1, rfl, by go_num, Nat.le_refl _, by omega, .inl rfl, by omega, fun i h0 h1 h2 => by omega, World.grownBy.refl _ _⟩
    case round =>
      obtain ⟨m, c, rfl, rfl, hc1, hc2, hm, hkm, hall, hG⟩ := hrel
      have HL : Hid (L.length = q) := HSk.out.1
      have HSq : Hid (SinkL gX base gh q w wr g cap gT gV l t k L) := HSk.out.kept hG
      have HAll : Hid (∀ i, 0 < i → i < c → (i - 1) / 4 = k → i < q → ¬ key L i < key L m) := hall
      have HKM : Hid (¬ key L k < key L m) := hkm
      have HG : Hid (wo.grownBy wr none) := hG
      clear hall hkm hG
      have hcI : (c : Int) ≤ 65536 * 4 + 5 := by omega
      by_cases hin : c ≤ 4 * k + 4 ∧ c < q
      · obtain ⟨hi1, hi2⟩ := hin
        have hi1I : (c : Int) ≤ 4 * (k : Int) + 4 := by omega
        have hi2I : (c : Int) < (q : Int) := by omega
        have hc0I : (0 : Int) ≤ (c : Int) := by omega
        have hmq : m < q := by omega
        have hmqI : (m : Int) < (q : Int) := by omega
        have hm0I : (0 : Int) ≤ (m : Int) := by omega
        obtain ⟨r, hr⟩ : ∃ r, L[c]? = some r := ⟨_, List.getElem?_eq_getElem (by rw [HL.out]; exact hi2)⟩
        obtain ⟨p, hp⟩ : ∃ p, L[m]? = some p := ⟨_, List.getElem?_eq_getElem (by rw [HL.out]; exact hmq)⟩
        have hOw : Own wr base 33 (.slice (some ⟨g, 0, none⟩) L.length cap) L := by rw [HL.out]; exact HSq.out.2.2.2.2.1
        obtain ⟨r0, r1, r2, r3⟩ := hOw.cells c r hr
        obtain ⟨p0, p1, p2, p3⟩ := hOw.cells m p hp
        have HK1 : Hid (key L c = r.1) := key_some hr
        have HK2 : Hid (key L m = p.1) := key_some hp
        clear hr hp hOw
        have HG3 : Hid (wo.grownBy (((wr.alloc (.cells (rc r) 33)).alloc (.cells (rc p) 33)).drew) none) := grown_trans HG.out (grown_trans (grown_alloc _ _ _) (grown_trans (grown_alloc _ _ _) (grown_drew _ _)))
        by_cases hlt : r.1 < p.1
        · have hdec : decide (r.1 < p.1) = true := decide_eq_true hlt
          have hlt' : Hid (r.1 < p.1) := hlt
          clear hlt
          go_wp2_with fail
          go_region_held3 (fun w' => w'.cell? ⟨g, c * 4, none⟩ = some (.int .i64 r.1) ∧ w'.cell? ⟨g, c * 4 + 1, none⟩ = some (.int .u32 r.2.1) ∧ w'.cell? ⟨g, c * 4 + 2, none⟩ = some (.int .u32 r.2.2.1) ∧ w'.cell? ⟨g, c * 4 + 3, none⟩ = some (.int .u32 r.2.2.2) ∧
              w'.cell? ⟨g, m * 4, none⟩ = some (.int .i64 p.1) ∧ w'.cell? ⟨g, m * 4 + 1, none⟩ = some (.int .u32 p.2.1) ∧ w'.cell? ⟨g, m * 4 + 2, none⟩ = some (.int .u32 p.2.2.1) ∧ w'.cell? ⟨g, m * 4 + 3, none⟩ = some (.int .u32 p.2.2.2))
            (simp (maxDischargeDepth := 10) [World.cell?_alloc_some, r0, r1, r2, r3, p0, p1, p2, p3])
            (first | (go_at_call 17; refine (before_any r p _).mono ?_; rintro e w' ⟨rfl, rfl⟩))
          go_wp2
          go_roundw
          case rel =>
            have h1 := HK1.out
            have h2 := HK2.out
            have h3 := hlt'.out
            have h4 := HKM.out
            refine ⟨c, c + 1, rfl, by go_num, by omega, by omega, .inr ⟨by omega, by omega, by omega⟩, by omega, fun i a b d e => ?_, HG3.out⟩
            by_cases hic : i = c
            · subst hic; omega
            · have := HAll.out i a (by omega) d e
              omega
          case measure => simp [intOf]; omega
        · have hdec : decide (r.1 < p.1) = false := decide_eq_false hlt
          have hlt' : Hid (¬ r.1 < p.1) := hlt
          clear hlt
          go_wp2_with fail
          go_region_held3 (fun w' => w'.cell? ⟨g, c * 4, none⟩ = some (.int .i64 r.1) ∧ w'.cell? ⟨g, c * 4 + 1, none⟩ = some (.int .u32 r.2.1) ∧ w'.cell? ⟨g, c * 4 + 2, none⟩ = some (.int .u32 r.2.2.1) ∧ w'.cell? ⟨g, c * 4 + 3, none⟩ = some (.int .u32 r.2.2.2) ∧
              w'.cell? ⟨g, m * 4, none⟩ = some (.int .i64 p.1) ∧ w'.cell? ⟨g, m * 4 + 1, none⟩ = some (.int .u32 p.2.1) ∧ w'.cell? ⟨g, m * 4 + 2, none⟩ = some (.int .u32 p.2.2.1) ∧ w'.cell? ⟨g, m * 4 + 3, none⟩ = some (.int .u32 p.2.2.2))
            (simp (maxDischargeDepth := 10) [World.cell?_alloc_some, r0, r1, r2, r3, p0, p1, p2, p3])
            (first | (go_at_call 17; refine (before_any r p _).mono ?_; rintro e w' ⟨rfl, rfl⟩))
          go_wp2
          go_roundw
          case rel =>
            have h1 := HK1.out
            have h2 := HK2.out
            have h3 := hlt'.out
            refine ⟨m, c + 1, rfl, by go_num, by omega, by omega, by omega, by have := HKM.out; omega, fun i a b d e => ?_, HG3.out⟩
            by_cases hic : i = c
            · subst hic; omega
            · have := HAll.out i a (by omega) d e
              omega
          case measure => simp [intOf]; omega
      · have HCh : Hid (∀ i, 0 < i → (i - 1) / 4 = k → i < L.length → ¬ key L i < key L m) := fun i a b d => HAll.out i a (by have := HL.out; omega) b (by have := HL.out; omega)
        obtain ⟨a1, a2, a3, a4, a5, a6, a7, a8, a9, b1, ⟨cc, b2, b2'⟩, b3, b4, b5, b6, b7, b8, b9, b10⟩ := HSq.out
        have x0 : wr.cell? ⟨gT, 0, none⟩ = some (.int .i64 t.1) := by rw [cell_of_row wr gT 0 _ _ _ b1]; rfl
        have x1 : wr.cell? ⟨gT, 1, none⟩ = some (.int .u32 t.2.1) := by rw [cell_of_row wr gT 1 _ _ _ b1]; rfl
        have x2 : wr.cell? ⟨gT, 2, none⟩ = some (.int .u32 t.2.2.1) := by rw [cell_of_row wr gT 2 _ _ _ b1]; rfl
        have x3 : wr.cell? ⟨gT, 3, none⟩ = some (.int .u32 t.2.2.2) := by rw [cell_of_row wr gT 3 _ _ _ b1]; rfl
        have y0 : wr.cell? ⟨gV, 0, none⟩ = some cc[0] := by rw [cell_of_row wr gV 0 _ _ _ b2]; simp [b2']
        have y1 : wr.cell? ⟨gV, 1, none⟩ = some cc[1] := by rw [cell_of_row wr gV 1 _ _ _ b2]; simp [b2']
        have y2 : wr.cell? ⟨gV, 2, none⟩ = some cc[2] := by rw [cell_of_row wr gV 2 _ _ _ b2]; simp [b2']
        have y3 : wr.cell? ⟨gV, 3, none⟩ = some cc[3] := by rw [cell_of_row wr gV 3 _ _ _ b2]; simp [b2']
        have f0 := frozen_of_row wr gV 0 _ _ b2
        have f1 := frozen_of_row wr gV 1 _ _ b2
        have f2 := frozen_of_row wr gV 2 _ _ b2
        have f3 := frozen_of_row wr gV 3 _ _ b2
        clear a1 a2 a3 a4 a5 a6 a7 a8 a9 b1 b2 b6 b7 b8 b9 b10
        by_cases hmk : m = k
        · subst hmk
          rcases (show 4 * m + 4 < c ∨ (c ≤ 4 * m + 4 ∧ q ≤ c) by omega) with hx | ⟨hx, hy⟩
          all_goals
            clear hin
            go_wp2
            exact bodyPost_ret (v := ra t) (by simp [results, Try.results12, go_sem, y0, y1, y2, y3]) rfl ⟨rfl, SinkL.end_ HSq.out hgb (fun i a b d => by have := HCh.out i a b d; omega) (grown_trans (grown_trans (grown_trans (grown_set _ _ _ _) (grown_set _ _ _ _)) (grown_set _ _ _ _)) (grown_set _ _ _ _))⟩
        · have hmq : m < q := by omega
          have hkq2 : k < q := by omega
          have hmqI : (m : Int) < (q : Int) := by omega
          have hkqI : (k : Int) < (q : Int) := by omega
          have hm0I : (0 : Int) ≤ (m : Int) := by omega
          have hk0I : (0 : Int) ≤ (k : Int) := by omega
          have hmkB : ((m : Int) == (k : Int)) = false := by simp; omega
          have hmp : (m - 1) / 4 = k ∧ 0 < m := by omega
          have HMP : Hid ((m - 1) / 4 = k ∧ 0 < m) := hmp
          have hkm2 : k < m := by omega
          have HNE : Hid (m ≠ k) := hmk
          clear x0 x1 x2 x3 y0 y1 y2 y3 f0 f1 f2 f3 hmp hmk hm
          obtain ⟨rk, hrk⟩ : ∃ r, L[k]? = some r := ⟨_, List.getElem?_eq_getElem (by rw [HL.out]; exact hkq2)⟩
          obtain ⟨rm, hrm⟩ : ∃ r, L[m]? = some r := ⟨_, List.getElem?_eq_getElem (by rw [HL.out]; exact hmq)⟩
          have hOw : Own wr base 33 (.slice (some ⟨g, 0, none⟩) L.length cap) L := by rw [HL.out]; exact HSq.out.2.2.2.2.1
          obtain ⟨r0, r1, r2, r3⟩ := hOw.cells k rk hrk
          obtain ⟨p0, p1, p2, p3⟩ := hOw.cells m rm hrm
          have e0 := hOw.free (k * 4)
          have e1 := hOw.free (k * 4 + 1)
          have e2 := hOw.free (k * 4 + 2)
          have e3 := hOw.free (k * 4 + 3)
          have f0 := hOw.free (m * 4)
          have f1 := hOw.free (m * 4 + 1)
          have f2 := hOw.free (m * 4 + 2)
          have f3 := hOw.free (m * 4 + 3)
          have HRk : Hid (L[k]? = some rk ∧ L[m]? = some rm) := ⟨hrk, hrm⟩
          clear hrk hrm hOw
          rcases (show 4 * k + 4 < c ∨ (c ≤ 4 * k + 4 ∧ q ≤ c) by omega) with hx | ⟨hx, hy⟩
          all_goals
            clear hin
            go_wp2
            go_region
            go_wp2
            go_roundw
            case rel => exact ⟨m, rfl, SinkL.swap_ HSq.out hgb HRk.out.1 HRk.out.2 HNE.out HMP.out (by have := HKM.out; omega) (fun i a b d => by have := HCh.out i a b d; omega) rfl⟩
            case measure => simp [intOf]; omega


/-- 'ZZHeapPop' the same. -/
theorem zpop_any (base gh n : Nat) (l : List Rid) (t : Rid) (HN : Hid (n = l.length)) (hn : n ≤ 65536) (ht : l[0]? = some t) (w : World) (h : HeapOf w base gh l) (hb : base ≤ w.heap.size) (ho : Ordered l) :
    Calls Try.prog 8 #[.pointer (some ⟨gh, 0, none⟩)] w fun e w' => e = .returned (ra t) ∧ ∃ l', HeapOf w' base gh l' ∧ l.Perm (t :: l') ∧ Ordered l' ∧ Far base gh w w' := by
  have hg := grown_alloc w (.cells #[.int .i64 0, .int .u32 0, .int .u32 0, .int .u32 0] 33) none
  have H1 := h.kept hg
  have hX1 : ∀ v k, (w.alloc (.cells #[.int .i64 0, .int .u32 0, .int .u32 0, .int .u32 0] 33)).cell? ⟨gh, 0, none⟩ = some v → v.ownBlock = some k → k ≠ w.heap.size := by
    intro v k hv hk
    obtain ⟨_, _, v', h3, h4⟩ := h
    have e := hg.cell h3 (by simp)
    rw [e] at hv
    simp only [Option.some.injEq] at hv
    subst hv
    have := (World.ownsRow.lt h4 k hk).2
    omega
  have hgh : w.heap.size ≠ gh := by obtain ⟨_, _, v', h3, _⟩ := h; have := World.block_lt_of_cell? w _ h3; simp only at this; omega
  have hgb : gh < base := h.1
  have HF : Hid (Far base gh w (w.alloc (.cells #[.int .i64 0, .int .u32 0, .int .u32 0, .int .u32 0] 33))) := Far.none hg hb
  have HB : Hid (base ≤ w.heap.size) := hb
  have hnew := heap_alloc_new w (.cells #[.int .i64 0, .int .u32 0, .int .u32 0, .int .u32 0] 33)
  have HH1 : Hid (HeapOf (w.alloc (.cells #[.int .i64 0, .int .u32 0, .int .u32 0, .int .u32 0] 33)) base gh l) := H1
  have HX1 : Hid (∀ v k, (w.alloc (.cells #[.int .i64 0, .int .u32 0, .int .u32 0, .int .u32 0] 33)).cell? ⟨gh, 0, none⟩ = some v → v.ownBlock = some k → k ≠ w.heap.size) := hX1
  have HO : Hid (Ordered l) := ho
  have HT : Hid (l[0]? = some t) := ht
  have HNew : Hid ((w.alloc (.cells #[.int .i64 0, .int .u32 0, .int .u32 0, .int .u32 0] 33)).heap[w.heap.size]? = some (.cells #[.int .i64 0, .int .u32 0, .int .u32 0, .int .u32 0] 33 (0, 0))) := hnew
  clear h hb ho hg H1 hX1 ht hnew
  go_enter Try.func8, Try.ntmps8
  go_wp2_with fail
  refine (pop_any w.heap.size base gh n l t HN hn HT.out _ HH1.out (by have := HB.out; simp; omega) HO.out HX1.out (by simp) hgh).mono ?_
  rintro e w' ⟨rfl, l', h1, h2, h3, h4, h5, h7⟩
  have h6 := h5.trans HNew.out
  obtain ⟨gV, GV⟩ : ∃ g, Hid (w.heap.size = g) := ⟨_, rfl⟩
  rw [GV.out] at h6 h7 hgh
  have y0 : w'.cell? ⟨gV, 0, none⟩ = some (.int .i64 0) := by rw [cell_of_row w' gV 0 _ _ _ h6]; rfl
  have y1 : w'.cell? ⟨gV, 1, none⟩ = some (.int .u32 0) := by rw [cell_of_row w' gV 1 _ _ _ h6]; rfl
  have y2 : w'.cell? ⟨gV, 2, none⟩ = some (.int .u32 0) := by rw [cell_of_row w' gV 2 _ _ _ h6]; rfl
  have y3 : w'.cell? ⟨gV, 3, none⟩ = some (.int .u32 0) := by rw [cell_of_row w' gV 3 _ _ _ h6]; rfl
  have f0 := frozen_of_row w' gV 0 _ _ h6
  have f1 := frozen_of_row w' gV 1 _ _ h6
  have f2 := frozen_of_row w' gV 2 _ _ h6
  have f3 := frozen_of_row w' gV 3 _ _ h6
  have HR : Hid (∀ W, w'.grownBy W (some gV) → ∃ l', HeapOf W base gh l' ∧ l.Perm (t :: l') ∧ Ordered l' ∧ Far base gh w W) := by
    intro W hg
    obtain ⟨k1, k2, v, k3, k4⟩ := h1
    have hne : some gh ≠ some gV := by simpa using Ne.symm hgh
    have hbs : base ≤ gV := by rw [← GV.out]; exact HB.out
    have hs4 := h4.2.2.2.1
    refine ⟨l', ⟨k1, (World.frozen?_of_block (w := w') (w' := W) (hg.block gh (World.block_lt_of_cell? w' _ k3) hne)).trans k2, v, hg.cell k3 hne, k4.kept hg (fun k hk e => h7 v k k3 hk (by simpa using e.symm))⟩, h2, h3, (HF.out.trans h4).trans (Far.grown hg (by have := HB.out; simp at hs4; omega) (fun k hk => .inl (by simp only [Option.some.injEq] at hk; omega)))⟩
  rw [GV.out]
  clear h1 h2 h3 h4 h5 h6 h7 HH1 HX1 HO HT HNew
  go_wp2
  exact bodyPost_ret (v := ra t) (by simp [results, Try.results8, go_sem, y0, y1, y2, y3]) rfl ⟨rfl, HR.out _ (grown_trans (grown_trans (grown_trans (grown_set _ _ _ _) (grown_set _ _ _ _)) (grown_set _ _ _ _)) (grown_set _ _ _ _))⟩
end Go.Proofs.Qxb6003817a
