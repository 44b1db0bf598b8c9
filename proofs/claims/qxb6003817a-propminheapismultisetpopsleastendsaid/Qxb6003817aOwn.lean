/-
  Rows of riders that the call owns; 'ZZHeapLen', 'ZZHeapAt', 'zzFromHeap', 'zzHeapOrdered'.
-/
import Derived.Test.Qxb6003817aSmall
namespace Go.Proofs.Qxb6003817a
open Go.RowKit

/-- Riders as cells. -/
def rv (l : List Rid) : List Value := l.flatMap (fun r => [.int .i64 r.1, .int .u32 r.2.1, .int .u32 r.2.2.1, .int .u32 r.2.2.2])

theorem rv_cons (r : Rid) (l : List Rid) : rv (r :: l) = .int .i64 r.1 :: .int .u32 r.2.1 :: .int .u32 r.2.2.1 :: .int .u32 r.2.2.2 :: rv l := by simp [rv]
theorem rv_append (a b : List Rid) : rv (a ++ b) = rv a ++ rv b := by simp [rv]
theorem rv_one (r : Rid) : rv [r] = [.int .i64 r.1, .int .u32 r.2.1, .int .u32 r.2.2.1, .int .u32 r.2.2.2] := by simp [rv]
theorem rv_len (l : List Rid) : (rv l).length = l.length * 4 := by
  induction l with
  | nil => rfl
  | cons r l ih => rw [rv_cons]; simp [ih]; omega

theorem rv_at (l : List Rid) : ∀ (j : Nat) (r : Rid), l[j]? = some r → (rv l)[j * 4]? = some (.int .i64 r.1) ∧ (rv l)[j * 4 + 1]? = some (.int .u32 r.2.1) ∧ (rv l)[j * 4 + 2]? = some (.int .u32 r.2.2.1) ∧ (rv l)[j * 4 + 3]? = some (.int .u32 r.2.2.2) := by
  induction l with
  | nil => intro j r h; simp at h
  | cons x l ih =>
    intro j r h
    rw [rv_cons]
    cases j with
    | zero => simp at h; subst h; simp
    | succ j =>
      have h' : l[j]? = some r := by simpa using h
      obtain ⟨a, b, c, d⟩ := ih j r h'
      rw [show (j + 1) * 4 = j * 4 + 4 by omega, show j * 4 + 4 + 1 = j * 4 + 1 + 4 by omega, show j * 4 + 4 + 2 = j * 4 + 2 + 4 by omega, show j * 4 + 4 + 3 = j * 4 + 3 + 4 by omega]
      simp [a, b, c, d]

theorem rv_set (l : List Rid) : ∀ (i : Nat) (r : Rid), ((((rv l).set (i * 4) (.int .i64 r.1)).set (i * 4 + 1) (.int .u32 r.2.1)).set (i * 4 + 2) (.int .u32 r.2.2.1)).set (i * 4 + 3) (.int .u32 r.2.2.2) = rv (l.set i r) := by
  induction l with
  | nil => intro i r; simp [rv]
  | cons x l ih =>
    intro i r
    rw [rv_cons]
    cases i with
    | zero => simp [rv_cons]
    | succ i =>
      rw [show (i + 1) * 4 = i * 4 + 4 by omega, show i * 4 + 4 + 1 = i * 4 + 1 + 4 by omega, show i * 4 + 4 + 2 = i * 4 + 2 + 4 by omega, show i * 4 + 4 + 3 = i * 4 + 3 + 4 by omega]
      simp only [List.set_cons_succ, rv_cons]
      rw [← ih i r]

/-- v is a slice of the call's own whose elements are l. -/
def Own (w : World) (base : Nat) (e : TypeId) (v : Value) (l : List Rid) : Prop := w.ownsRow base e 4 v l.length (rv l)

section
variable {w w' : World} {base : Nat} {e : TypeId} {v : Value} {l : List Rid} {g cap : Nat}

theorem Own.form (h : Own w base e v l) (hl : 0 < l.length) : ∃ g cap, v = .slice (some ⟨g, 0, none⟩) l.length cap ∧ base ≤ g ∧ g < w.heap.size :=
  World.ownsRow.form (show w.ownsRow base e 4 v l.length (rv l) from h) hl

theorem Own.cells (h : Own w base e (.slice (some ⟨g, 0, none⟩) l.length cap) l) (j : Nat) (r : Rid) (hj : l[j]? = some r) :
    w.cell? ⟨g, j * 4, none⟩ = some (.int .i64 r.1) ∧ w.cell? ⟨g, j * 4 + 1, none⟩ = some (.int .u32 r.2.1) ∧ w.cell? ⟨g, j * 4 + 2, none⟩ = some (.int .u32 r.2.2.1) ∧ w.cell? ⟨g, j * 4 + 3, none⟩ = some (.int .u32 r.2.2.2) := by
  have hlt := (List.getElem?_eq_some_iff.1 hj).1
  obtain ⟨a, b, c, d⟩ := rv_at l j r hj
  have h0 : w.ownsRow base e 4 (.slice (some ⟨g, 0, none⟩) l.length cap) l.length (rv l) := h
  exact ⟨(h0.cellAt _ (by omega)).trans a, (h0.cellAt _ (by omega)).trans b, (h0.cellAt _ (by omega)).trans c, (h0.cellAt _ (by omega)).trans d⟩

theorem Own.free (h : Own w base e (.slice (some ⟨g, 0, none⟩) l.length cap) l) (j : Nat) : w.frozen? ⟨g, j, none⟩ = false :=
  World.ownsRow.frozenAt (show w.ownsRow base e 4 (.slice (some ⟨g, 0, none⟩) l.length cap) l.length (rv l) from h) j

theorem Own.lt (h : Own w base e (.slice (some ⟨g, 0, none⟩) l.length cap) l) : base ≤ g ∧ g < w.heap.size :=
  World.ownsRow.lt (show w.ownsRow base e 4 (.slice (some ⟨g, 0, none⟩) l.length cap) l.length (rv l) from h) g rfl

theorem Own.put (h : Own w base e (.slice (some ⟨g, 0, none⟩) l.length cap) l) (i : Nat) (r : Rid) :
    Own ((((w.setCell ⟨g, i * 4, none⟩ (.int .i64 r.1)).setCell ⟨g, i * 4 + 1, none⟩ (.int .u32 r.2.1)).setCell ⟨g, i * 4 + 2, none⟩ (.int .u32 r.2.2.1)).setCell ⟨g, i * 4 + 3, none⟩ (.int .u32 r.2.2.2)) base e (.slice (some ⟨g, 0, none⟩) l.length cap) (l.set i r) := by
  have h0 : w.ownsRow base e 4 (.slice (some ⟨g, 0, none⟩) l.length cap) l.length (rv l) := h
  have h1 := ((((h0.stored (i * 4) (.int .i64 r.1)).1.stored (i * 4 + 1) (.int .u32 r.2.1)).1.stored (i * 4 + 2) (.int .u32 r.2.2.1)).1.stored (i * 4 + 3) (.int .u32 r.2.2.2)).1
  rw [rv_set] at h1
  unfold Own
  rw [List.length_set]
  exact h1

theorem Own.kept {row : Option Nat} (h : Own w base e v l) (hg : w.grownBy w' row) (hne : ∀ k, v.ownBlock = some k → row ≠ some k) : Own w' base e v l := by
  refine World.ownsRow.kept h hg ?_
  cases hv : v.ownBlock with
  | none => exact .inl rfl
  | some k => exact .inr (fun e => hne k hv e.symm)

theorem Own.keptN (h : Own w base e v l) (hg : w.grownBy w' none) : Own w' base e v l := h.kept hg (fun _ _ => by simp)
end

theorem grown_trans {a b c : World} {row : Option Nat} (h : a.grownBy b row) (g : b.grownBy c row) : a.grownBy c row :=
  ⟨g.os.trans h.os, g.tape.trans h.tape, g.output.trans h.output, Nat.le_trans h.size g.size, fun k hk hne => (g.block k (Nat.lt_of_lt_of_le hk h.size) hne).trans (h.block k hk hne)⟩
theorem grown_drew (w : World) (row : Option Nat) : w.grownBy w.drew row := ⟨rfl, rfl, rfl, Nat.le_refl _, fun _ _ _ => rfl⟩
theorem grown_drewN (w : World) (q : Nat) (row : Option Nat) : w.grownBy (w.drewN q) row := ⟨rfl, rfl, rfl, Nat.le_refl _, fun _ _ _ => rfl⟩
theorem grown_alloc (w : World) (o : Obj) (row : Option Nat) : w.grownBy (w.alloc o) row := World.grownBy_alloc w o row
theorem grown_set (w : World) (m j : Nat) (v : Value) : w.grownBy (w.setCell ⟨m, j, none⟩ v) (some m) :=
  ⟨rfl, rfl, rfl, by simp, fun k _ hk => heap_setCell_other w ⟨m, j, none⟩ k v (fun e => hk (by simp [e]))⟩

theorem len_any (gh n cap : Nat) (ao : Option Addr) (w : World) (h : w.cell? ⟨gh, 0, none⟩ = some (.slice ao n cap)) :
    Calls Try.prog 13 #[.pointer (some ⟨gh, 0, none⟩)] w fun e w' => e = .returned (.int .i64 n) ∧ w' = w := by
  go_enter Try.func13, Try.ntmps13
  go_wp2
  go_ret
  exact ⟨rfl, rfl⟩

theorem at_any (gh g n cap i : Nat) (r : Rid) (w : World) (hi : i < n) (h : w.cell? ⟨gh, 0, none⟩ = some (.slice (some ⟨g, 0, none⟩) n cap))
    (c0 : w.cell? ⟨g, i * 4, none⟩ = some (.int .i64 r.1)) (c1 : w.cell? ⟨g, i * 4 + 1, none⟩ = some (.int .u32 r.2.1)) (c2 : w.cell? ⟨g, i * 4 + 2, none⟩ = some (.int .u32 r.2.2.1)) (c3 : w.cell? ⟨g, i * 4 + 3, none⟩ = some (.int .u32 r.2.2.2)) :
    Calls Try.prog 16 #[.pointer (some ⟨gh, 0, none⟩), .int .i64 i] w fun e w' => e = .returned (ra r) ∧ w' = w.alloc (.cells (rc r) 33) := by
  have hiI : (i : Int) < (n : Int) := by omega
  have lh := World.block_lt_of_cell? w _ h
  have lg := World.block_lt_of_cell? w _ c0
  simp only at lh lg
  go_enter Try.func16, Try.ntmps16
  go_wp2
  exact bodyPost_ret (v := ra r) (by simp [results, Try.results16, go_sem]) rfl ⟨rfl, rfl⟩

theorem from_any (gh g n cap i : Nat) (r : Rid) (w : World) (hi : i < n) (h : w.cell? ⟨gh, 0, none⟩ = some (.slice (some ⟨g, 0, none⟩) n cap))
    (c0 : w.cell? ⟨g, i * 4, none⟩ = some (.int .i64 r.1)) (c1 : w.cell? ⟨g, i * 4 + 1, none⟩ = some (.int .u32 r.2.1)) (c2 : w.cell? ⟨g, i * 4 + 2, none⟩ = some (.int .u32 r.2.2.1)) (c3 : w.cell? ⟨g, i * 4 + 3, none⟩ = some (.int .u32 r.2.2.2)) :
    Calls Try.prog 14 #[.pointer (some ⟨gh, 0, none⟩), .int .i64 i] w fun e w' => e = .returned (ra r) ∧ w.grownBy w' none := by
  have lh := World.block_lt_of_cell? w _ h
  have lg := World.block_lt_of_cell? w _ c0
  simp only at lh lg
  have k0 : ∀ o, (w.alloc o).cell? ⟨gh, 0, none⟩ = some (.slice (some ⟨g, 0, none⟩) n cap) := fun o => (World.cell?_alloc_lt _ _ _ lh).trans h
  go_enter Try.func14, Try.ntmps14
  go_wp2_with fail
  refine (at_any gh g n cap i r _ hi (k0 _) ((World.cell?_alloc_lt _ _ _ lg).trans c0) ((World.cell?_alloc_lt _ _ _ lg).trans c1) ((World.cell?_alloc_lt _ _ _ lg).trans c2) ((World.cell?_alloc_lt _ _ _ lg).trans c3)).mono ?_
  rintro e w' ⟨rfl, rfl⟩
  clear k0
  go_wp2_with fail
  refine (fields_any r _).mono ?_
  rintro e w' ⟨rfl, rfl⟩
  go_wp2
  exact bodyPost_ret (v := ra r) (by simp [results, Try.results14, go_sem]) rfl ⟨rfl, grown_trans (grown_trans (grown_trans (grown_alloc _ _ _) (grown_alloc _ _ _)) (grown_alloc _ _ _)) (grown_drew _ _)⟩

/-- The heap's variable at gh holds a slice of the call's own whose elements are l. -/
def HeapOf (w : World) (base gh : Nat) (l : List Rid) : Prop :=
  gh < base ∧ w.frozen? ⟨gh, 0, none⟩ = false ∧ ∃ v, w.cell? ⟨gh, 0, none⟩ = some v ∧ Own w base 33 v l

theorem own_slice {w : World} {base : Nat} {e : TypeId} {v : Value} {l : List Rid} (h : Own w base e v l) : ∃ ao cap, v = .slice ao l.length cap ∧ ∀ a, ao = some a → ∃ g, a = ⟨g, 0, none⟩ := by
  rcases h.2 with ⟨rfl, h0⟩ | ⟨g, cap, cur, rfl, _⟩
  · exact ⟨none, 0, by rw [h0], fun a h => by cases h⟩
  · exact ⟨_, _, rfl, fun a h => ⟨g, by simpa using h.symm⟩⟩

theorem HeapOf.kept {w w' : World} {base gh : Nat} {l : List Rid} (h : HeapOf w base gh l) (hg : w.grownBy w' none) : HeapOf w' base gh l := by
  obtain ⟨h1, h2, v, h3, h4⟩ := h
  have hlt := World.block_lt_of_cell? w _ h3
  exact ⟨h1, (World.frozen?_of_block (w := w) (hg.block gh hlt (by simp))).trans h2, v, hg.cell h3 (by simp), h4.keptN hg⟩

/-- The heap's slice, written out. -/
theorem HeapOf.open_ {w : World} {base gh : Nat} {l : List Rid} (h : HeapOf w base gh l) : ∃ ao cap, w.cell? ⟨gh, 0, none⟩ = some (.slice ao l.length cap) := by
  obtain ⟨_, _, v, h3, h4⟩ := h
  obtain ⟨ao, cap, rfl, _⟩ := own_slice h4
  exact ⟨ao, cap, h3⟩

theorem HeapOf.at_ {w : World} {base gh : Nat} {l : List Rid} (h : HeapOf w base gh l) (i : Nat) (r : Rid) (hi : l[i]? = some r) :
    ∃ g cap, w.cell? ⟨gh, 0, none⟩ = some (.slice (some ⟨g, 0, none⟩) l.length cap) ∧ w.cell? ⟨g, i * 4, none⟩ = some (.int .i64 r.1) ∧ w.cell? ⟨g, i * 4 + 1, none⟩ = some (.int .u32 r.2.1) ∧ w.cell? ⟨g, i * 4 + 2, none⟩ = some (.int .u32 r.2.2.1) ∧ w.cell? ⟨g, i * 4 + 3, none⟩ = some (.int .u32 r.2.2.2) := by
  obtain ⟨_, _, v, h3, h4⟩ := h
  have hlt := (List.getElem?_eq_some_iff.1 hi).1
  obtain ⟨g, cap, rfl, _, _⟩ := h4.form (by omega)
  exact ⟨g, cap, h3, h4.cells i r hi⟩

theorem hat_any (base gh i : Nat) (l : List Rid) (r : Rid) (w : World) (h : HeapOf w base gh l) (hi : l[i]? = some r) :
    Calls Try.prog 16 #[.pointer (some ⟨gh, 0, none⟩), .int .i64 i] w fun e w' => e = .returned (ra r) ∧ w' = w.alloc (.cells (rc r) 33) := by
  obtain ⟨g, cap, a, c0, c1, c2, c3⟩ := h.at_ i r hi
  exact at_any gh g l.length cap i r w (List.getElem?_eq_some_iff.1 hi).1 a c0 c1 c2 c3

theorem hfrom_any (base gh i : Nat) (l : List Rid) (r : Rid) (w : World) (h : HeapOf w base gh l) (hi : l[i]? = some r) :
    Calls Try.prog 14 #[.pointer (some ⟨gh, 0, none⟩), .int .i64 i] w fun e w' => e = .returned (ra r) ∧ w.grownBy w' none := by
  obtain ⟨g, cap, a, c0, c1, c2, c3⟩ := h.at_ i r hi
  exact from_any gh g l.length cap i r w (List.getElem?_eq_some_iff.1 hi).1 a c0 c1 c2 c3

/-- No child comes before its parent. -/
def Ordered (l : List Rid) : Prop := ∀ i r p, 0 < i → l[i]? = some r → l[(i - 1) / 4]? = some p → ¬ r.1 < p.1

set_option maxHeartbeats 400000 in
theorem ordered_any (base gh n : Nat) (l : List Rid) (HN : Hid (n = l.length)) (hn : n ≤ 65536) (w : World) (h : HeapOf w base gh l) (ho : Ordered l) :
    Calls Try.prog 10 #[.pointer (some ⟨gh, 0, none⟩)] w fun e w' => e = .returned (.bool true) ∧ w.grownBy w' none := by
  have HH : Hid (HeapOf w base gh l) := h
  have HO : Hid (Ordered l) := ho
  clear h ho
  go_enter Try.func10, Try.ntmps10
  go_wp2
  go_loopw [3] (fun i wr => ∃ k : Nat, i = .int .i64 ((k : Int) + 1) ∧ (k ≤ n) ∧ w.grownBy wr none) (fun i _ => n + 1 - (intOf i).toNat)
  case atStart => exact ⟨0, rfl, by omega, World.grownBy.refl _ _⟩
  case round =>
    obtain ⟨k, rfl, hk, hG⟩ := hrel
    obtain ⟨ao, cap, hc⟩ := (HH.out.kept hG).open_
    rw [← HN.out] at hc
    by_cases hlt : k + 1 < n
    · have hltI : (k : Int) + 1 < (n : Int) := by omega
      have hlt2 : k + 1 < l.length := by rw [← HN.out]; exact hlt
      have hlt3 : k / 4 < l.length := by omega
      have HA : Hid (HeapOf wr base gh l) := HH.out.kept hG
      have HG : Hid (w.grownBy wr none) := hG
      clear hG
      obtain ⟨r, hr⟩ : ∃ r, l[k + 1]? = some r := ⟨_, List.getElem?_eq_getElem hlt2⟩
      obtain ⟨p, hp⟩ : ∃ p, l[k / 4]? = some p := ⟨_, List.getElem?_eq_getElem hlt3⟩
      have hnot : ¬ r.1 < p.1 := HO.out (k + 1) r p (by omega) hr (by simpa using hp)
      have HR : Hid (l[k + 1]? = some r) := hr
      have HP : Hid (l[k / 4]? = some p) := hp
      clear hr hp hlt2 hlt3
      go_wp2_with fail
      refine (len_any gh n cap ao _ hc).mono ?_
      rintro e w1 ⟨rfl, rfl⟩
      go_wp2_with fail
      rw [show ((k : Int) + 1) = ((k + 1 : Nat) : Int) from rfl]
      refine (hat_any base gh (k + 1) l r _ HA.out HR.out).mono ?_
      rintro e w2 ⟨rfl, hw2⟩
      have HA2 : Hid (HeapOf w2 base gh l) := by rw [hw2]; exact HA.out.kept (grown_alloc _ _ _)
      have HG2 : Hid (w.grownBy w2 none) := by rw [hw2]; exact grown_trans HG.out (grown_alloc _ _ _)
      clear hw2 hc
      go_wp2_with fail
      refine (hat_any base gh (k / 4) l p _ HA2.out HP.out).mono ?_
      rintro e w3 ⟨rfl, hw3⟩
      have HG3 : Hid (w.grownBy w3 none) := by rw [hw3]; exact grown_trans HG2.out (grown_alloc _ _ _)
      clear hw3
      go_wp2_with fail
      refine (zbefore_any r p _).mono ?_
      rintro e w4 ⟨rfl, hw4⟩
      have HG4 : Hid (w.grownBy w4 none) := by rw [hw4]; exact grown_trans HG3.out (grown_trans (grown_trans (grown_trans (grown_alloc _ _ _) (grown_alloc _ _ _)) (grown_alloc _ _ _)) (grown_alloc _ _ _))
      clear hw4
      go_wp2
      go_roundw
      case rel => exact ⟨k + 1, by go_num, by omega, HG4.out⟩
      case measure => simp [intOf]; omega
    · go_wp2_with fail
      refine (len_any gh n cap ao _ hc).mono ?_
      rintro e w1 ⟨rfl, rfl⟩
      go_wp2
      go_ret
      exact ⟨rfl, hG⟩
end Go.Proofs.Qxb6003817a
