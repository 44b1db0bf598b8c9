/-
  'PropMinHeapIsMultisetPopsLeastEnd': the walk.
-/
import Derived.Test.Qxb6003817aPop
import Derived.Test.Qxb6003817aOps
namespace Go.Proofs.Qxb6003817a
open Go.RowKit

theorem Try.info36 : (Try.prog.info? 36).map (fun i => (i.zero, i.size, i.bytes)) = some (some (.agg #[.int .i64 0, .int .u32 0, .int .u32 0, .int .u32 0]), 4, 24) := by kernel_rfl

theorem law_huge (ao : Option Addr) (n cap : Nat) (w : World) (hm : n ≤ maxLen) (hn : 65536 < n) :
    Calls Try.prog 3 #[.slice ao n cap] w fun e w' => e = .returned (.bool true) ∧ Below w.heap.size w w' := by
  unfold maxLen at hm
  go_enter Try.func3, Try.ntmps3
  go_wp2_with fail
  go_ret
  exact ⟨rfl, Below.refl _ _⟩

theorem law_bad (ao : Option Addr) (n cap : Nat) (bp : Nat → Bool) (rp : Nat → Rid) (w : World) (hn : n ≤ 65536) (h : OpsAt w ao n bp rp) (hc : (cntF bp n).isSome = false) :
    Calls Try.prog 3 #[.slice ao n cap] w fun e w' => e = .returned (.bool true) ∧ Below w.heap.size w w' := by
  have HC : Hid ((cntF bp n).isSome = false) := hc
  clear hc
  go_enter Try.func3, Try.ntmps3
  go_wp2_with fail
  refine (pops_any ao n cap bp rp w hn h).mono ?_
  rintro e w' ⟨rfl, rfl⟩
  rw [HC.out]
  go_wp2_with fail
  go_ret
  exact ⟨rfl, Below.refl _ _⟩

/-- What holds between the statements of a round. -/
def SL (base gh gM n : Nat) (w wr : World) (c : Nat) (l m : List Rid) : Prop :=
  l.length = c ∧ m.length = c ∧ l.Perm m ∧ Ordered l ∧ HeapOf wr base gh l ∧ Own wr 0 36 (.slice (some ⟨gM, 0, none⟩) c n) m ∧ Below w.heap.size w wr ∧ base ≤ wr.heap.size

theorem SL.grown {base gh gM n c : Nat} {w wr wq : World} {l m : List Rid} (h : SL base gh gM n w wr c l m) (hg : wr.grownBy wq none) : SL base gh gM n w wq c l m := by
  obtain ⟨h1, h2, h3, h4, h5, h6, h7, h8⟩ := h
  exact ⟨h1, h2, h3, h4, h5.kept hg, h6.keptN hg, h7.grown hg h7.size (fun k hk => by cases hk), Nat.le_trans h8 hg.size⟩

/-- What holds at the head of a round. -/
def State (base gh gM n : Nat) (bp : Nat → Bool) (w wr : World) (k c : Nat) : Prop :=
  ∃ l m : List Rid, cntF bp k = some c ∧ SL base gh gM n w wr c l m

theorem far_below {base gh : Nat} {w a b : World} (hw : Below w.heap.size w a) (h : Far base gh a b) (h1 : w.heap.size ≤ gh) (h2 : w.heap.size ≤ base) : Below w.heap.size w b :=
  hw.trans ⟨h.1, h.2.1, h.2.2.1, h.2.2.2.1, fun k hk => h.2.2.2.2 k (by omega) (by omega)⟩

theorem own_nil (w : World) (base : Nat) (e : TypeId) : Own w base e (.slice none 0 0) [] := ⟨rfl, .inl ⟨rfl, rfl⟩⟩

theorem state_start {w w1 : World} {gM n : Nat} {bp : Nat → Bool} (hown : w1.ownsRow 0 36 4 (.slice (some ⟨gM, 0, none⟩) 0 n) 0 []) (hgrow : (w.alloc (.cells #[.slice none 0 0] 25)).grownBy w1 none) :
    State w1.heap.size w.heap.size gM n bp w w1 0 0 := by
  have hs := hgrow.size
  rw [World.size_alloc] at hs
  have hn := heap_alloc_new w (.cells #[.slice none 0 0] 25)
  have hb := hgrow.block w.heap.size (by rw [World.size_alloc]; omega) (by simp)
  rw [hn] at hb
  refine ⟨[], [], rfl, rfl, rfl, .refl _, fun i r p _ h => by simp at h, ⟨by omega, ?_, _, ?_, own_nil _ _ _⟩, hown, (Below.alloc (Below.refl _ _) (Nat.le_refl _) _).grown hgrow (by rw [World.size_alloc]; omega) (fun k hk => by cases hk), Nat.le_refl _⟩
  · simp [World.frozen?, hb]
  · rw [cell_of_row w1 w.heap.size 0 _ _ _ hb]; rfl

theorem Own.far {w w' : World} {base B gh g k cap : Nat} {e : TypeId} {l : List Rid} (h : Own w B e (.slice (some ⟨g, 0, none⟩) k cap) l) (hf : Far base gh w w') (h1 : g < base) (h2 : g ≠ gh) : Own w' B e (.slice (some ⟨g, 0, none⟩) k cap) l := by
  refine ⟨h.1, ?_⟩
  rcases h.2 with ⟨h', _⟩ | ⟨g', cap', cur, h', hb, hg, hr⟩
  · simp at h'
  · have e : g = g' := by simp only [Value.slice.injEq, Option.some.injEq, Addr.mk.injEq, and_true] at h'; exact h'.1
    exact .inr ⟨g', cap', cur, h', hb, by rw [hf.2.2.2.2 g' (by omega) (by omega)]; exact hg, hr⟩

/-- The world behind a push. -/
theorem sl_push {base gh gM n c : Nat} {w wr W w2 W2 w3 : World} {l m l' : List Rid} {x : Rid} (h : SL base gh gM n w wr c l m) (hW : wr.grownBy W none) (h1 : HeapOf w2 base gh l') (h2 : l'.Perm (x :: l)) (h3 : Ordered l') (h4 : Far base gh W w2) (hM : gM < base) (hMh : gM ≠ gh) (hh : w.heap.size ≤ gh) (hbw : w.heap.size ≤ base)
    (hwM : w.heap.size ≤ gM) (hW2 : w2.grownBy W2 none) (hown : w3.ownsRow 0 36 4 (.slice (some ⟨gM, 0, none⟩) (c + 1) n) (c + 1) (rv m ++ [.int .i64 x.1, .int .u32 x.2.1, .int .u32 x.2.2.1, .int .u32 x.2.2.2])) (hg3 : W2.grownBy w3 (some gM)) :
    SL base gh gM n w w3 (c + 1) l' (m ++ [x]) := by
  obtain ⟨a1, a2, a3, a4, a5, a6, a7, a8⟩ := h
  obtain ⟨b1, b2, v, b3, b4⟩ := h1.kept hW2
  have hlt := World.block_lt_of_cell? W2 _ b3
  have hne : some gh ≠ some gM := by simpa using hMh.symm
  have hB2 : Below w.heap.size w w2 := far_below (a7.grown hW a7.size (fun k hk => by cases hk)) h4 hh hbw
  have hB3 : Below w.heap.size w W2 := hB2.grown hW2 hB2.size (fun k hk => by cases hk)
  have s1 := hW.size
  have s2 := h4.2.2.2.1
  have s3 := hW2.size
  have s4 := hg3.size
  refine ⟨by rw [h2.length_eq]; simp [a1], by simp [a2], ?_, h3, ⟨b1, (World.frozen?_of_block (w := W2) (hg3.block gh hlt hne)).trans b2, v, hg3.cell b3 hne, b4.kept hg3 ?_⟩, ?_, hB3.grown hg3 hB3.size (fun k hk => by simp only [Option.some.injEq] at hk; omega), by omega⟩
  · exact (h2.trans (a3.cons x)).trans (List.perm_append_singleton x m).symm
  · intro k hk
    have := (World.ownsRow.lt b4 k hk).1
    simp
    omega
  · unfold Own
    rw [rv_append, rv_one, List.length_append, a2]
    exact hown


theorem SL.same {base gh gM n c : Nat} {w wr : World} {l m : List Rid} (h : SL base gh gM n w wr c l m) (hc : c ≤ 65536) :
    Calls Try.prog 9 #[.pointer (some ⟨gh, 0, none⟩), .slice (some ⟨gM, 0, none⟩) c n] wr fun e w' => e = .returned (.bool true) ∧ SL base gh gM n w w' c l m := by
  have h' := h
  obtain ⟨h1, h2, h3, h4, h5, h6, h7, h8⟩ := h
  refine (same_any base 0 gh c n gM l m h1.symm h2.symm hc wr h5 (by rw [h2]; exact h6) h3).mono ?_
  rintro e w' ⟨rfl, hb⟩
  exact ⟨rfl, h'.grown (grown_of_below hb)⟩
theorem SL.ord {base gh gM n c : Nat} {w wr : World} {l m : List Rid} (h : SL base gh gM n w wr c l m) (hc : c ≤ 65536) :
    Calls Try.prog 10 #[.pointer (some ⟨gh, 0, none⟩)] wr fun e w' => e = .returned (.bool true) ∧ SL base gh gM n w w' c l m := by
  have h' := h
  obtain ⟨h1, h2, h3, h4, h5, h6, h7, h8⟩ := h
  refine (ordered_any base gh c l h1.symm hc wr h5 h4).mono ?_
  rintro e w' ⟨rfl, hb⟩
  exact ⟨rfl, h'.grown hb⟩

/-- What holds between the statements of a pop. -/
def SP (base gh gM n gG : Nat) (w wr : World) (c : Nat) (l m : List Rid) (t : Rid) : Prop :=
  m.length = c ∧ HeapOf wr base gh l ∧ Own wr 0 36 (.slice (some ⟨gM, 0, none⟩) c n) m ∧ Below w.heap.size w wr ∧ base ≤ wr.heap.size ∧ wr.heap[gG]? = some (.cells #[.int .i64 t.1, .int .u32 t.2.1, .int .u32 t.2.2.1, .int .u32 t.2.2.2] 36 (0, 0)) ∧ base ≤ gG

theorem SP.grown {base gh gM n gG c : Nat} {w wr wq : World} {l m : List Rid} {t : Rid} (h : SP base gh gM n gG w wr c l m t) (hg : wr.grownBy wq none) : SP base gh gM n gG w wq c l m t := by
  obtain ⟨h1, h2, h3, h4, h5, h6, h7⟩ := h
  have hlt : gG < wr.heap.size := (Array.getElem?_eq_some_iff.1 h6).1
  exact ⟨h1, h2.kept hg, h3.keptN hg, h4.grown hg h4.size (fun k hk => by cases hk), Nat.le_trans h5 hg.size, (hg.block gG hlt (by simp)).trans h6, h7⟩

theorem SP.got {base gh gM n gG c : Nat} {w wr : World} {l m : List Rid} {t : Rid} (h : SP base gh gM n gG w wr c l m t) :
    wr.cell? ⟨gG, 0, none⟩ = some (.int .i64 t.1) ∧ wr.cell? ⟨gG, 1, none⟩ = some (.int .u32 t.2.1) ∧ wr.cell? ⟨gG, 2, none⟩ = some (.int .u32 t.2.2.1) ∧ wr.cell? ⟨gG, 3, none⟩ = some (.int .u32 t.2.2.2) := by
  have hK := h.2.2.2.2.2.1
  exact ⟨by rw [cell_of_row wr gG 0 _ _ _ hK]; rfl, by rw [cell_of_row wr gG 1 _ _ _ hK]; rfl, by rw [cell_of_row wr gG 2 _ _ _ hK]; rfl, by rw [cell_of_row wr gG 3 _ _ _ hK]; rfl⟩

theorem SP.at_ {base gh gM n gG c : Nat} {w wr : World} {l m : List Rid} {t y : Rid} (h : SP base gh gM n gG w wr c l m t) {j : Nat} (hj : m[j]? = some y) :
    wr.cell? ⟨gM, j * 4, none⟩ = some (.int .i64 y.1) ∧ wr.cell? ⟨gM, j * 4 + 1, none⟩ = some (.int .u32 y.2.1) ∧ wr.cell? ⟨gM, j * 4 + 2, none⟩ = some (.int .u32 y.2.2.1) ∧ wr.cell? ⟨gM, j * 4 + 3, none⟩ = some (.int .u32 y.2.2.2) := by
  have h3 := h.2.2.1
  rw [← h.1] at h3
  exact h3.cells j y hj

theorem SP.free {base gh gM n gG c : Nat} {w wr : World} {l m : List Rid} {t : Rid} (h : SP base gh gM n gG w wr c l m t) (o : Nat) : wr.frozen? ⟨gM, o, none⟩ = false := by
  have h3 := h.2.2.1
  rw [← h.1] at h3
  exact h3.free o

/-- What a pop leaves ahead of the search. -/
theorem sp_start {base gh gM n gG c : Nat} {w wr W w3 w5 : World} {l m l' : List Rid} {t : Rid} (h : SL base gh gM n w wr c l m) (hW : wr.grownBy W none) (h1 : HeapOf w3 base gh l') (h4 : Far base gh W w3) (hM : gM < base) (hMh : gM ≠ gh) (hh : w.heap.size ≤ gh) (hbw : w.heap.size ≤ base)
    (h5 : w3.grownBy w5 none) (hG : gG = w5.heap.size) : SP base gh gM n gG w (w5.alloc (.cells #[.int .i64 t.1, .int .u32 t.2.1, .int .u32 t.2.2.1, .int .u32 t.2.2.2] 36)) c l' m t := by
  obtain ⟨a1, a2, a3, a4, a5, a6, a7, a8⟩ := h
  have hg : w3.grownBy (w5.alloc (.cells #[.int .i64 t.1, .int .u32 t.2.1, .int .u32 t.2.2.1, .int .u32 t.2.2.2] 36)) none := grown_trans h5 (grown_alloc _ _ _)
  have s1 := hW.size
  have s2 := h4.2.2.2.1
  have s3 := h5.size
  have hB2 : Below w.heap.size w w3 := far_below (a7.grown hW a7.size (fun k hk => by cases hk)) h4 hh hbw
  refine ⟨a2, h1.kept hg, ((a6.keptN hW).far h4 hM hMh).keptN hg, hB2.grown hg hB2.size (fun k hk => by cases hk), by rw [World.size_alloc]; omega, ?_, by omega⟩
  rw [hG]
  exact heap_alloc_new w5 _

/-- The plain facts of a pop. -/
theorem pop_plain {l m l' : List Rid} {t : Rid} (ho : Ordered l) (ht : l[0]? = some t) (hp : l.Perm (t :: l')) (hm : l.Perm m) : (∃ j0 : Nat, m[j0]? = some t) ∧ ∀ (j : Nat) (y : Rid), m[j]? = some y → ¬ y.1 < t.1 := by
  constructor
  · have hmem : t ∈ m := hm.mem_iff.1 (hp.mem_iff.2 (List.mem_cons_self))
    obtain ⟨j, hj, e⟩ := List.getElem_of_mem hmem
    exact ⟨j, by rw [List.getElem?_eq_getElem hj, e]⟩
  · intro j y hy
    have hmem : y ∈ l := hm.mem_iff.2 (List.mem_of_getElem? hy)
    obtain ⟨i, hi, e⟩ := List.getElem_of_mem hmem
    have h1 := (ord_of ho).top i i (Nat.le_refl _) hi
    rw [key_some ht, key_some (r := y) (by rw [List.getElem?_eq_getElem hi, e])] at h1
    exact h1

theorem erase_perm {t : Rid} : ∀ (m : List Rid) (i : Nat), m[i]? = some t → (t :: m.eraseIdx i).Perm m
  | [], i, h => by simp at h
  | y :: m, 0, h => by
    simp at h
    subst h
    exact .refl _
  | y :: m, i + 1, h => by
    have h' : m[i]? = some t := by simpa using h
    rw [List.eraseIdx_cons_succ]
    exact (List.Perm.swap y t (m.eraseIdx i)).trans ((erase_perm m i h').cons y)

theorem pop_perm {l m l' : List Rid} {t : Rid} {i : Nat} (hp : l.Perm (t :: l')) (hm : l.Perm m) (hi : m[i]? = some t) : l'.Perm (m.eraseIdx i) := by
  have h1 := erase_perm m i hi
  exact ((hp.symm.trans hm).trans h1.symm).cons_inv

/-- The model while the riders behind i move down: those below j have moved. -/
def Moved (m M : List Rid) (i j : Nat) : Prop := M.length = m.length ∧ ∀ p, p < m.length → M[p]? = if i ≤ p ∧ p < j then m[p + 1]? else m[p]?

theorem Moved.start (m : List Rid) (i : Nat) : Moved m m i i := ⟨rfl, fun p _ => by rw [if_neg (by omega)]⟩
theorem Moved.step {m M : List Rid} {i j : Nat} {y : Rid} (h : Moved m M i j) (hij : i ≤ j) (hj : j + 1 < m.length) (hy : M[j + 1]? = some y) : Moved m (M.set j y) i (j + 1) := by
  refine ⟨by rw [List.length_set]; exact h.1, fun p hp => ?_⟩
  have h1 := h.2 (j + 1) hj
  rw [if_neg (by omega), hy] at h1
  rw [List.getElem?_set]
  by_cases e : j = p
  · subst e
    rw [if_pos rfl, if_pos (by rw [h.1]; omega), if_pos ⟨hij, by omega⟩, ← h1]
  · rw [if_neg e, h.2 p hp]
    by_cases h2 : i ≤ p ∧ p < j
    · rw [if_pos h2, if_pos ⟨h2.1, by omega⟩]
    · rw [if_neg h2, if_neg (by omega)]
theorem Moved.stop {m M : List Rid} {i j : Nat} (h : Moved m M i j) (hij : i ≤ j) (hj : j + 1 = m.length) : M.take j = m.eraseIdx i := by
  apply List.ext_getElem?
  intro p
  rw [List.getElem?_eraseIdx, List.getElem?_take]
  by_cases hp : p < j
  · rw [if_pos hp, h.2 p (by omega)]
    by_cases h2 : i ≤ p
    · rw [if_pos ⟨h2, hp⟩, if_neg (by omega)]
    · rw [if_neg (fun h => h2 h.1), if_pos (by omega)]
  · rw [if_neg hp, if_neg (by omega)]
    exact (List.getElem?_eq_none (by omega)).symm

/-- One rider moves down. -/
theorem sp_move {base gh gM n gG c j : Nat} {w wr W : World} {l M : List Rid} {t y : Rid} (h : SP base gh gM n gG w wr c l M t) (hM : gM < base) (hMh : gM ≠ gh) (hwM : w.heap.size ≤ gM)
    (hW : W = (((wr.setCell ⟨gM, j * 4, none⟩ (.int .i64 y.1)).setCell ⟨gM, j * 4 + 1, none⟩ (.int .u32 y.2.1)).setCell ⟨gM, j * 4 + 2, none⟩ (.int .u32 y.2.2.1)).setCell ⟨gM, j * 4 + 3, none⟩ (.int .u32 y.2.2.2)) :
    SP base gh gM n gG w W c l (M.set j y) t := by
  obtain ⟨h1, ⟨b1, b2, v, b3, b4⟩, h3, h4, h5, h6, h7⟩ := h
  have gA : wr.grownBy W (some gM) := by rw [hW]; exact grown_trans (grown_trans (grown_trans (grown_set _ _ _ _) (grown_set _ _ _ _)) (grown_set _ _ _ _)) (grown_set _ _ _ _)
  have hne : some gh ≠ some gM := by simpa using hMh.symm
  have hlt := World.block_lt_of_cell? wr _ b3
  have hltG : gG < wr.heap.size := (Array.getElem?_eq_some_iff.1 h6).1
  refine ⟨by rw [List.length_set]; exact h1, ⟨b1, (World.frozen?_of_block (w := wr) (gA.block gh hlt hne)).trans b2, v, gA.cell b3 hne, b4.kept gA ?_⟩, ?_, h4.grown gA h4.size (fun k hk => by simp only [Option.some.injEq] at hk; omega), Nat.le_trans h5 gA.size, (gA.block gG hltG (by simp; omega)).trans h6, h7⟩
  · intro k hk
    have := (World.ownsRow.lt b4 k hk).1
    simp
    omega
  · rw [← h1] at h3 ⊢
    rw [hW]
    exact h3.put j y

/-- The end of a pop. -/
theorem sp_end {base gh gM n gG c i j : Nat} {w wr : World} {l l' m M : List Rid} {t : Rid} (h : SP base gh gM n gG w wr c l' M t) (ho : Ordered l') (hp : l.Perm (t :: l')) (hm : l.Perm m) (hi : m[i]? = some t) (hij : i ≤ j) (hmv : Moved m M i j) (hj : j + 1 = c) :
    SL base gh gM n w wr (c - 1) l' (m.eraseIdx i) := by
  obtain ⟨h1, h2, h3, h4, h5, h6, h7⟩ := h
  have hlen : m.length = c := hmv.1.symm.trans h1
  have hll := hp.length_eq
  have hml := hm.length_eq
  rw [List.length_cons] at hll
  have he : M.take j = m.eraseIdx i := hmv.stop hij (by omega)
  refine ⟨by omega, ?_, pop_perm hp hm hi, ho, h2, ?_, h4, h5⟩
  · rw [← he, List.length_take]; omega
  · rw [← he, show c - 1 = j by omega]
    rw [← h1] at h3
    exact h3.cut (by omega)

theorem news_at (w : World) (x : Rid) : ∀ j u, [Value.int .i64 x.1, .int .u32 x.2.1, .int .u32 x.2.2.1, .int .u32 x.2.2.2][j]? = some u → (w.alloc (.cells #[.int .i64 x.1, .int .u32 x.2.1, .int .u32 x.2.2.1, .int .u32 x.2.2.2] 36)).cell? ((⟨w.heap.size, 0, none⟩ : Addr).add j) = some u := by
  intro j u h
  have hb := heap_alloc_new w (.cells #[.int .i64 x.1, .int .u32 x.2.1, .int .u32 x.2.2.1, .int .u32 x.2.2.2] 36)
  rw [show (⟨w.heap.size, 0, none⟩ : Addr).add j = ⟨w.heap.size, j, none⟩ by by_cases hj : j = 0 <;> simp [Addr.add, hj], cell_of_row _ w.heap.size j _ _ _ hb]
  simpa using h
theorem news_one (x : Rid) : ∀ u ∈ [Value.int .i64 x.1, .int .u32 x.2.1, .int .u32 x.2.2.1, .int .u32 x.2.2.2], u.oneCell' = true := by
  intro u hu
  simp at hu
  rcases hu with rfl | rfl | rfl | rfl <;> rfl

set_option maxRecDepth 10000 in
set_option maxHeartbeats 8000000 in
theorem law_main (ao : Option Addr) (n cap : Nat) (bp : Nat → Bool) (rp : Nat → Rid) (w : World) (hn : n ≤ 65536) (h : OpsAt w ao n bp rp) (hc : (cntF bp n).isSome = true) :
    Calls Try.prog 3 #[.slice ao n cap] w fun e w' => e = .returned (.bool true) ∧ Below w.heap.size w w' := by
  have HC : Hid ((cntF bp n).isSome = true) := hc
  have HO : Hid (OpsAt w ao n bp rp) := h
  clear hc
  obtain ⟨i36, q1, q2, q3, q4⟩ := info_parts Try.info36
  go_enter Try.func3, Try.ntmps3
  go_wp2_with fail
  refine (pops_any ao n cap bp rp w hn h).mono ?_
  rintro e w0 ⟨rfl, rfl⟩
  rw [HC.out]
  clear h
  go_wp2_with (at_make; refine wpList_make_own _ rfl _ _ 26 rfl 0 36 i36 (.agg #[.int .i64 0, .int .u32 0, .int .u32 0, .int .u32 0]) 4 Try.underlying26 q1 q2 q3 _ _ _ n rfl rfl (by omega) (by rw [q4]; omega) (by unfold maxLen; omega) (Nat.zero_le _) ?_)
  intro w1 hown hgrow
  have HS0 : Hid (State w1.heap.size w0.heap.size (w0.heap.size + 1) n bp w0 w1 0 0) := state_start hown hgrow
  have HLT : Hid (w0.heap.size + 1 < w1.heap.size) := (World.ownsRow.lt hown _ rfl).2
  clear hown hgrow
  obtain ⟨gM, hgM⟩ : ∃ g, g = w0.heap.size + 1 := ⟨_, rfl⟩
  rw [← hgM] at HS0 HLT ⊢
  obtain ⟨gh, hgh⟩ : ∃ g, g = w0.heap.size := ⟨_, rfl⟩
  obtain ⟨base, hbase⟩ : ∃ g, g = w1.heap.size := ⟨_, rfl⟩
  have HL0 : Hid (w0.heap.size ≤ gh) := by rw [hgh]; exact Nat.le_refl _
  have HL1 : Hid (gh < gM) := by unfold Hid; omega
  have HL2 : Hid (gM < base) := by rw [hbase]; exact HLT.out
  have HS : Hid (State base gh gM n bp w0 w1 0 0) := by rw [hgh, hbase]; exact HS0.out
  rw [← hgh]
  clear HS0 HLT hgM hgh hbase q2 q4
  go_wp2
  go_loopw [4, 5] (fun sm si wr => ∃ k c : Nat, k ≤ n ∧ si = .int .i64 k ∧ sm = .slice (some ⟨gM, 0, none⟩) c n ∧ State base gh gM n bp w0 wr k c) (fun _ si _ => n - (intOf si).toNat)
  case atStart => exact ⟨0, 0, Nat.zero_le _, rfl, rfl, HS.out⟩
  case round =>
    clear HS
    obtain ⟨k, c, hk, rfl, rfl, l, m, hc, hS⟩ := hrel
    have hck := cntF_le k c hc
    have HCk : Hid (cntF bp k = some c) := hc
    have HS : Hid (SL base gh gM n w0 wr c l m) := hS
    clear hc hS
    by_cases hlt : k < n
    · have hltI : (k : Int) < (n : Int) := by omega
      obtain ⟨b, off, hao, c0, c1, c2, c3, c4⟩ := HO.out.below HS.out.2.2.2.2.2.2.1 (Nat.le_refl _) k hlt
      subst hao
      obtain ⟨x, hx⟩ : ∃ x, rp k = x := ⟨_, rfl⟩
      rw [hx] at c1 c2 c3 c4
      clear hx
      cases hb : bp k with
      | true =>
        rw [hb] at c0
        have HB : Hid (bp k = true) := hb
        clear hb
        go_wp2_with fail
        refine (new_any _ _ _ _ _).mono ?_
        rintro e w2 ⟨rfl, hw2⟩
        have hgW : wr.grownBy w2 none := by rw [hw2]; exact grown_trans (grown_alloc _ _ _) (grown_alloc _ _ _)
        have HGW : Hid (wr.grownBy w2 none) := hgW
        have hK2 : w2.heap[wr.heap.size]? = some (.cells #[.bool true, .int .i64 x.1, .int .u32 x.2.1, .int .u32 x.2.2.1, .int .u32 x.2.2.2] 29 (0, 0)) := by
          have h0 := heap_alloc_new wr (.cells #[.bool true, .int .i64 x.1, .int .u32 x.2.1, .int .u32 x.2.2.1, .int .u32 x.2.2.2] 29)
          have h1 := (grown_alloc (wr.alloc (.cells #[.bool true, .int .i64 x.1, .int .u32 x.2.1, .int .u32 x.2.2.1, .int .u32 x.2.2.2] 29)) (.cells (rc (x.1, x.2.1, x.2.2.1, x.2.2.2)) 33) none).block wr.heap.size (by rw [World.size_alloc]; omega) (by simp)
          rw [hw2, h1, h0]
        have HK2 : Hid (w2.heap[wr.heap.size]? = some (.cells #[.bool true, .int .i64 x.1, .int .u32 x.2.1, .int .u32 x.2.2.1, .int .u32 x.2.2.2] 29 (0, 0))) := hK2
        have HX : Hid (wr.heap.size < w2.heap.size ∧ wr.heap.size ≠ gh ∧ ∀ v k, w2.cell? ⟨gh, 0, none⟩ = some v → v.ownBlock = some k → k ≠ wr.heap.size) := by
          obtain ⟨_, _, v', h3, h4⟩ := HS.out.2.2.2.2.1
          refine ⟨by rw [hw2]; simp; omega, ?_, ?_⟩
          · have := World.block_lt_of_cell? wr _ h3; simp only at this; omega
          · intro v k hv hk
            rw [hgW.cell h3 (by simp)] at hv
            simp only [Option.some.injEq] at hv
            subst hv
            have := (World.ownsRow.lt h4 k hk).2
            omega
        obtain ⟨gO, hgO⟩ : ∃ g, wr.heap.size = g := ⟨_, rfl⟩
        rw [hgO] at HK2 HX
        rw [hgO]
        have HSw : Hid (SL base gh gM n w0 w2 c l m) := HS.out.grown hgW
        clear hw2 hgW hK2 c0 c1 c2 c3 c4
        have HGO : Hid (wr.heap.size = gO) := hgO
        clear hgO
        go_wp2_with fail
        refine (zpush_any gO base gh c l x HSw.out.1.symm (by omega) _ HSw.out.2.2.2.2.1 HSw.out.2.2.2.2.2.2.2 HSw.out.2.2.2.1 HX.out.2.2 HX.out.1 HX.out.2.1).mono ?_
        rintro e w3 ⟨rfl, l', h1, h2, h3, h4, h5⟩
        have HP : Hid (HeapOf w3 base gh l' ∧ l'.Perm (x :: l) ∧ Ordered l' ∧ Far base gh w2 w3) := ⟨h1, h2, h3, h4⟩
        have hK3 : w3.heap[gO]? = some (.cells #[.bool true, .int .i64 x.1, .int .u32 x.2.1, .int .u32 x.2.2.1, .int .u32 x.2.2.2] 29 (0, 0)) := by rw [h5]; exact HK2.out
        have x1 : w3.cell? ⟨gO, 1, none⟩ = some (.int .i64 x.1) := by rw [cell_of_row w3 gO 1 _ _ _ hK3]; rfl
        have x2 : w3.cell? ⟨gO, 2, none⟩ = some (.int .u32 x.2.1) := by rw [cell_of_row w3 gO 2 _ _ _ hK3]; rfl
        have x3 : w3.cell? ⟨gO, 3, none⟩ = some (.int .u32 x.2.2.1) := by rw [cell_of_row w3 gO 3 _ _ _ hK3]; rfl
        have x4 : w3.cell? ⟨gO, 4, none⟩ = some (.int .u32 x.2.2.2) := by rw [cell_of_row w3 gO 4 _ _ _ hK3]; rfl
        have HOw : Hid (w3.ownsRow 0 36 4 (.slice (some ⟨gM, 0, none⟩) c n) c (rv m)) := by
          have h0 : Own w3 0 36 (.slice (some ⟨gM, 0, none⟩) c n) m := Own.far HSw.out.2.2.2.2.2.1 h4 HL2.out (by have := HL1.out; omega)
          unfold Own at h0
          rw [HSw.out.2.1] at h0
          exact h0
        have hsz := h4.2.2.2.1
        have hsX := HX.out.1
        clear h1 h2 h3 h4 h5 hK3
        go_wp2_with (first | (at_builtin; refine wpList_append_fits _ rfl (.tmp 47) (.tmp 57) 26 rfl 0 36 i36 4 Try.underlying26 q1 q3 gM c n _ rfl (HOw.out.alloc _) ⟨w3.heap.size, 0, none⟩ 1 1 [.int .i64 x.1, .int .u32 x.2.1, .int .u32 x.2.2.1, .int .u32 x.2.2.2] rfl rfl (news_at w3 x) (news_one x) (by omega) ?_; intro w4 hown4 hgrow4))
        have HS4 : Hid (SL base gh gM n w0 w4 (c + 1) l' (m ++ [x])) := sl_push HS.out HGW.out HP.out.1 HP.out.2.1 HP.out.2.2.1 HP.out.2.2.2 HL2.out (by have := HL1.out; omega) HL0.out (by have := HL0.out; have := HL1.out; have := HL2.out; omega) (by have := HL0.out; have := HL1.out; omega) (grown_alloc _ _ _) hown4 hgrow4
        clear hown4 hgrow4 x1 x2 x3 x4 HOw HP HSw HX HK2 HGW HS hsz hsX HGO
        go_wp2_with fail
        refine (HS4.out.same (by omega)).mono ?_
        rintro e w5 ⟨rfl, hS5⟩
        have HS5 : Hid (SL base gh gM n w0 w5 (c + 1) l' (m ++ [x])) := hS5
        clear hS5
        go_wp2_with fail
        refine (HS5.out.ord (by omega)).mono ?_
        rintro e w6 ⟨rfl, hS6⟩
        have HS6 : Hid (SL base gh gM n w0 w6 (c + 1) l' (m ++ [x])) := hS6
        clear hS6 HS4 HS5
        go_wp2
        go_roundw
        case rel => exact ⟨k + 1, c + 1, by omega, by go_num, rfl, l', m ++ [x], cntF_push HCk.out HB.out, HS6.out⟩
        case measure => simp [intOf]; omega
      | false =>
        rw [hb] at c0
        have HB : Hid (bp k = false) := hb
        clear hb
        have hc1 : 0 < c := by
          rcases Nat.eq_zero_or_pos c with e | e
          · exfalso
            subst e
            obtain ⟨c', hc'⟩ := cntF_some HC.out (show k + 1 ≤ n by omega)
            rw [cntF_bad HCk.out HB.out] at hc'
            cases hc'
          · exact e
        obtain ⟨t, ht⟩ : ∃ t, l[0]? = some t := ⟨_, List.getElem?_eq_getElem (by rw [HS.out.1]; exact hc1)⟩
        have HT : Hid (l[0]? = some t) := ht
        clear ht
        go_wp2_with fail
        have hgW := grown_alloc wr (.cells #[.bool false, .int .i64 x.1, .int .u32 x.2.1, .int .u32 x.2.2.1, .int .u32 x.2.2.2] 29) none
        have HGW : Hid (wr.grownBy (wr.alloc (.cells #[.bool false, .int .i64 x.1, .int .u32 x.2.1, .int .u32 x.2.2.1, .int .u32 x.2.2.2] 29)) none) := hgW
        have HSw := HS.out.grown hgW
        refine (zpop_any base gh c l t HSw.1.symm (by omega) HT.out _ HSw.2.2.2.2.1 HSw.2.2.2.2.2.2.2 HSw.2.2.2.1).mono ?_
        rintro e w3 ⟨rfl, l', h1, h2, h3, h4⟩
        have HP : Hid (l.Perm (t :: l') ∧ Ordered l') := ⟨h2, h3⟩
        obtain ⟨j0, hj0⟩ := (pop_plain HS.out.2.2.2.1 HT.out h2 HS.out.2.2.1).1
        have HJ0 : Hid (m[j0]? = some t) := hj0
        have HLe : Hid (∀ (j : Nat) (y : Rid), m[j]? = some y → ¬ y.1 < t.1) := (pop_plain HS.out.2.2.2.1 HT.out h2 HS.out.2.2.1).2
        have HH3 : Hid (HeapOf w3 base gh l' ∧ Far base gh (wr.alloc (.cells #[.bool false, .int .i64 x.1, .int .u32 x.2.1, .int .u32 x.2.2.1, .int .u32 x.2.2.2] 29)) w3) := ⟨h1, h4⟩
        clear h1 h2 h3 h4 hgW hj0 c0 c1 c2 c3 c4 HSw
        go_wp2_with fail
        refine (fields_any t _).mono ?_
        rintro e w4 ⟨rfl, hw4⟩
        have HG4 : Hid (w3.grownBy w4 none) := by rw [hw4]; exact grown_trans (grown_alloc _ _ _) (grown_drew _ _)
        clear hw4
        have HSP : Hid (SP base gh gM n w4.heap.size w0 (w4.alloc (.cells #[.int .i64 t.1, .int .u32 t.2.1, .int .u32 t.2.2.1, .int .u32 t.2.2.2] 36)) c l' m t) :=
          sp_start HS.out HGW.out HH3.out.1 HH3.out.2 HL2.out (by have := HL1.out; omega) HL0.out (by have := HL0.out; have := HL1.out; have := HL2.out; omega) HG4.out rfl
        clear HH3 HGW HG4
        obtain ⟨gG, hgG⟩ : ∃ g, Hid (w4.heap.size = g) := ⟨_, rfl⟩
        obtain ⟨w5, hw5⟩ : ∃ W, Hid (w4.alloc (.cells #[.int .i64 t.1, .int .u32 t.2.1, .int .u32 t.2.2.1, .int .u32 t.2.2.2] 36) = W) := ⟨_, rfl⟩
        rw [hgG.out, hw5.out] at HSP
        go_wp2
        rw [hgG.out, hw5.out]
        clear hgG hw5
        go_loopw [12, 13] (fun f i wq => ∃ j : Nat, i = .int .i64 j ∧ j ≤ c ∧ SP base gh gM n gG w0 wq c l' m t ∧ ((f = .int .i64 (-1) ∧ j ≤ j0) ∨ ∃ ii : Nat, f = .int .i64 ii ∧ m[ii]? = some t)) (fun _ i _ => c - (intOf i).toNat)
        case atStart => exact ⟨0, rfl, Nat.zero_le _, HSP.out, .inl ⟨rfl, Nat.zero_le _⟩⟩
        case round =>
          clear HSP
          obtain ⟨j, rfl, hj, hSP, hcase⟩ := hrel
          rcases hcase with ⟨rfl, hjj⟩ | ⟨ii, rfl, hii⟩
          · have hjlt : j < c := by
              have h1 := (List.getElem?_eq_some_iff.1 HJ0.out).1
              have h2 := hSP.1
              omega
            have hjI : (j : Int) < (c : Int) := by omega
            have hj0I : (0 : Int) ≤ (j : Int) := by omega
            obtain ⟨y, hy⟩ : ∃ y, m[j]? = some y := ⟨_, List.getElem?_eq_getElem (by rw [hSP.1]; exact hjlt)⟩
            obtain ⟨m0, m1, m2, m3⟩ := hSP.at_ hy
            obtain ⟨x0, x1, x2, x3⟩ := hSP.got
            have HSP : Hid (SP base gh gM n gG w0 wr c l' m t) := hSP
            have HY : Hid (m[j]? = some y) := hy
            clear hSP hy
            by_cases hyx : y = t
            · subst hyx
              go_wp2
              go_quiet (fail)
              go_wp2
              go_roundw
              case rel => exact ⟨j + 1, by go_num, by omega, HSP.out.grown (grown_drewN _ _ _), .inr ⟨j, rfl, HY.out⟩⟩
              case measure => simp [intOf]; omega
            · have HJlt : Hid (j + 1 ≤ j0) := by
                unfold Hid
                rcases Nat.lt_or_ge j j0 with h | h
                · exact h
                · exfalso
                  have e : j = j0 := by omega
                  have h1 := HY.out
                  rw [e, HJ0.out] at h1
                  simp only [Option.some.injEq] at h1
                  exact hyx h1.symm
              rcases rid_ne hyx with hne | ⟨e1, hne⟩ | ⟨e1, e2, hne⟩ | ⟨e1, e2, e3, hne⟩
              all_goals
                clear hyx
                go_wp2
                go_quiet (fail)
                go_wp2
                go_roundw
                case rel => exact ⟨j + 1, by go_num, by omega, HSP.out.grown (grown_drewN _ _ _), .inl ⟨rfl, HJlt.out⟩⟩
                case measure => simp [intOf]; omega
          · have HSP : Hid (SP base gh gM n gG w0 wr c l' m t) := hSP
            have HI : Hid (m[ii]? = some t) := hii
            have hic : ii < c := by
              have h1 := (List.getElem?_eq_some_iff.1 hii).1
              have h2 := hSP.1
              omega
            have hicI : (ii : Int) < (c : Int) := by omega
            have hi0I : (0 : Int) ≤ (ii : Int) := by omega
            clear hSP hii
            rcases Nat.lt_or_ge j c with hjl | hjl
            all_goals
              have hjlI : ((j : Int) < (c : Int)) ∨ (c : Int) ≤ (j : Int) := by omega
              rcases hjlI with hjlI | hjlI
              all_goals first
                | (exfalso; omega)
                | (
                  go_wp2
                  go_loopw [14] (fun i wq => ∃ q : Nat, i = .int .i64 q ∧ q ≤ c ∧ SP base gh gM n gG w0 wq c l' m t) (fun i _ => c - (intOf i).toNat)
                  case atStart => exact ⟨0, rfl, Nat.zero_le _, HSP.out⟩
                  case round =>
                    clear HSP
                    obtain ⟨q, rfl, hq, hSP⟩ := hrel
                    by_cases hqc : q < c
                    · have hqI : (q : Int) < (c : Int) := by omega
                      have hq0 : (0 : Int) ≤ (q : Int) := by omega
                      obtain ⟨y, hy⟩ : ∃ y, m[q]? = some y := ⟨_, List.getElem?_eq_getElem (by rw [hSP.1]; exact hqc)⟩
                      obtain ⟨m0, m1, m2, m3⟩ := hSP.at_ hy
                      obtain ⟨x0, x1, x2, x3⟩ := hSP.got
                      have hle2 : ¬ y.1 < t.1 := by have := HLe.out q y hy; omega
                      have hle : decide (y.1 < t.1) = false := decide_eq_false hle2
                      have HSP : Hid (SP base gh gM n gG w0 wr c l' m t) := hSP
                      clear hSP hy
                      go_wp2
                      go_quiet (fail)
                      go_wp2
                      go_roundw
                      case rel => exact ⟨q + 1, by go_num, by omega, HSP.out.grown (grown_drewN _ _ _)⟩
                      case measure => simp [intOf]; omega
                    · have hqe : c = q := by omega
                      subst hqe
                      have HSP : Hid (SP base gh gM n gG w0 wr c l' m t) := hSP
                      clear hSP hq hqc
                      go_wp2
                      go_loopw [15] (fun i wq => ∃ (q : Nat) (M : List Rid), i = .int .i64 q ∧ ii ≤ q ∧ q < c ∧ Moved m M ii q ∧ SP base gh gM n gG w0 wq c l' M t) (fun i _ => c - (intOf i).toNat)
                      case atStart => exact ⟨ii, m, rfl, Nat.le_refl _, hic, Moved.start _ _, HSP.out⟩
                      case round =>
                        clear HSP
                        obtain ⟨q, M, rfl, hiq, hqc, hMv, hSP⟩ := hrel
                        have HMv : Hid (Moved m M ii q) := hMv
                        have HSP : Hid (SP base gh gM n gG w0 wr c l' M t) := hSP
                        by_cases hq1 : q + 1 < c
                        · have hqI : (q : Int) + 1 < (c : Int) := by omega
                          have hqI2 : (q : Int) < (c : Int) := by omega
                          have hq0 : (0 : Int) ≤ (q : Int) := by omega
                          obtain ⟨y, hy⟩ : ∃ y, M[q + 1]? = some y := ⟨_, List.getElem?_eq_getElem (by rw [hSP.1]; exact hq1)⟩
                          obtain ⟨z, hz⟩ : ∃ z, M[q]? = some z := ⟨_, List.getElem?_eq_getElem (by rw [hSP.1]; exact hqc)⟩
                          obtain ⟨y0, y1, y2, y3⟩ := hSP.at_ hy
                          obtain ⟨z0, z1, z2, z3⟩ := hSP.at_ hz
                          have hf : ∀ o, wr.frozen? ⟨gM, o, none⟩ = false := hSP.free
                          have hmc := hMv.1.symm.trans hSP.1
                          have HMv2 : Hid (Moved m (M.set q y) ii (q + 1)) := hMv.step hiq (by rw [hmc]; exact hq1) hy
                          clear hSP hMv hmc hy hz
                          have f0 := hf (q * 4)
                          have f1 := hf (q * 4 + 1)
                          have f2 := hf (q * 4 + 2)
                          have f3 := hf (q * 4 + 3)
                          clear hf
                          go_wp2
                          go_roundw
                          case rel => exact ⟨q + 1, M.set q y, by go_num, by omega, by omega, HMv2.out, sp_move HSP.out HL2.out (by have := HL1.out; omega) (by have := HL0.out; have := HL1.out; omega) rfl⟩
                          case measure => simp [intOf]; omega
                        · have HE : Hid (SL base gh gM n w0 wr (c - 1) l' (m.eraseIdx ii)) := sp_end HSP.out HP.out.2 HP.out.1 HS.out.2.2.1 HI.out hiq HMv.out (by omega)
                          have hqI : (c : Int) ≤ (q : Int) + 1 := by omega
                          have hcn : (c : Int) ≤ (n : Int) := by omega
                          have hc1I : (1 : Int) ≤ (c : Int) := by omega
                          clear hSP hMv
                          go_wp2_with fail
                          refine (HE.out.same (by omega)).mono ?_
                          rintro e w7 ⟨rfl, hS7⟩
                          have HS7 : Hid (SL base gh gM n w0 w7 (c - 1) l' (m.eraseIdx ii)) := hS7
                          clear hS7
                          go_wp2_with fail
                          refine (HS7.out.ord (by omega)).mono ?_
                          rintro e w8 ⟨rfl, hS8⟩
                          have HS8 : Hid (SL base gh gM n w0 w8 (c - 1) l' (m.eraseIdx ii)) := hS8
                          clear hS8 HS7
                          go_wp2
                          go_roundw
                          case rel => exact ⟨k + 1, c - 1, by omega, by go_num, rfl, l', m.eraseIdx ii, cntF_pop HCk.out HB.out hc1, HS8.out⟩
                          case measure => simp [intOf]; omega)
    · have e : n = k := by omega
      subst e
      go_wp2
      go_ret
      exact ⟨rfl, HS.out.2.2.2.2.2.2.1⟩
end Go.Proofs.Qxb6003817a
