/-
  'zzSameMultiset' by its contract.
-/
import Derived.Test.Qxb6003817aOwn
import Derived.Test.Qxb6003817aPlain
namespace Go.Proofs.Qxb6003817a
open Go.RowKit

theorem Try.info4 : (Try.prog.info? 4).map (fun i => (i.zero, i.size, i.bytes)) = some (some (.bool false), 1, 1) := by kernel_rfl

/-- The marks: block g holds u. -/
def Marks (w : World) (g : Nat) (u : List Bool) : Prop := w.ownsRow 0 4 1 (.slice (some ⟨g, 0, none⟩) u.length u.length) u.length (u.map Value.bool)

theorem Marks.cell {w : World} {g : Nat} {u : List Bool} (h : Marks w g u) (j : Nat) {b : Bool} (hj : u[j]? = some b) : w.cell? ⟨g, j, none⟩ = some (.bool b) ∧ w.frozen? ⟨g, j, none⟩ = false := by
  have hlt := (List.getElem?_eq_some_iff.1 hj).1
  have h0 : w.ownsRow 0 4 1 (.slice (some ⟨g, 0, none⟩) u.length u.length) u.length (u.map Value.bool) := h
  refine ⟨(h0.cellAt j (by omega)).trans ?_, h0.frozenAt j⟩
  simp [hj]

theorem Marks.kept {w w' : World} {g : Nat} {u : List Bool} {row : Option Nat} (h : Marks w g u) (hg : w.grownBy w' row) (hne : row ≠ some g) : Marks w' g u :=
  World.ownsRow.kept h hg (.inr (fun e => hne e.symm))

theorem Marks.set {w : World} {g : Nat} {u : List Bool} (h : Marks w g u) (j : Nat) : Marks (w.setCell ⟨g, j, none⟩ (.bool true)) g (u.set j true) := by
  have h0 : w.ownsRow 0 4 1 (.slice (some ⟨g, 0, none⟩) u.length u.length) u.length (u.map Value.bool) := h
  have h1 := (h0.stored j (.bool true)).1
  unfold Marks
  rw [List.length_set, List.map_set]
  exact h1

theorem grown_of_below {w w' : World} (hb : Below w.heap.size w w') : w.grownBy w' none := ⟨hb.os, hb.tape, hb.output, hb.size, fun k hk _ => hb.block k hk⟩
theorem below_of_grown {w w' : World} (hg : w.grownBy w' none) : Below w.heap.size w w' := (Below.refl _ _).grown hg (Nat.le_refl _) (fun k hk => by cases hk)

theorem HeapOf.below {w w' : World} {base gh : Nat} {l : List Rid} (h : HeapOf w base gh l) (hb : Below w.heap.size w w') : HeapOf w' base gh l := h.kept (grown_of_below hb)
theorem Own.below {w w' : World} {base : Nat} {e : TypeId} {v : Value} {l : List Rid} (h : Own w base e v l) (hb : Below w.heap.size w w') : Own w' base e v l := h.keptN (grown_of_below hb)

/-- Two riders that are not the same part in one of their four numbers. -/
theorem rid_ne {y x : Rid} (h : y ≠ x) : ((y.1 == x.1) = false) ∨ ((y.1 == x.1) = true ∧ (y.2.1 == x.2.1) = false) ∨ ((y.1 == x.1) = true ∧ (y.2.1 == x.2.1) = true ∧ (y.2.2.1 == x.2.2.1) = false) ∨
    ((y.1 == x.1) = true ∧ (y.2.1 == x.2.1) = true ∧ (y.2.2.1 == x.2.2.1) = true ∧ (y.2.2.2 == x.2.2.2) = false) := by
  obtain ⟨a, b, c, d⟩ := y
  obtain ⟨a', b', c', d'⟩ := x
  simp only [beq_eq_false_iff_ne, beq_iff_eq]
  by_cases h1 : a = a'
  · by_cases h2 : b = b'
    · by_cases h3 : c = c'
      · by_cases h4 : d = d'
        · exact absurd (by rw [h1, h2, h3, h4]) h
        · exact .inr (.inr (.inr ⟨h1, h2, h3, h4⟩))
      · exact .inr (.inr (.inl ⟨h1, h2, h3⟩))
    · exact .inr (.inl ⟨h1, h2⟩)
  · exact .inl h1

set_option maxHeartbeats 2000000 in
theorem same_any (base baseM gh n capm gM : Nat) (l m : List Rid) (HN : Hid (n = l.length)) (HM : Hid (n = m.length)) (hn : n ≤ 65536) (w : World) (h : HeapOf w base gh l) (hm : Own w baseM 36 (.slice (some ⟨gM, 0, none⟩) m.length capm) m) (hp : l.Perm m) :
    Calls Try.prog 9 #[.pointer (some ⟨gh, 0, none⟩), .slice (some ⟨gM, 0, none⟩) n capm] w fun e w' => e = .returned (.bool true) ∧ Below w.heap.size w w' := by
  have HH : Hid (HeapOf w base gh l) := h
  have HO : Hid (Own w baseM 36 (.slice (some ⟨gM, 0, none⟩) m.length capm) m) := hm
  have HP : Hid (l.Perm m) := hp
  obtain ⟨ao, cap, hc⟩ := h.open_
  rw [← HN.out] at hc
  have lM := hm.lt.2
  have lh := World.block_lt_of_cell? w _ hc
  simp only at lh
  clear h hm hp
  obtain ⟨i4, q1, q2, q3, q4⟩ := info_parts Try.info4
  go_enter Try.func9, Try.ntmps9
  go_wp2_with fail
  refine (len_any gh n cap ao _ hc).mono ?_
  rintro e w0 ⟨rfl, rfl⟩
  go_wp2_with (at_make; refine wpList_make_full _ rfl _ _ 45 rfl 0 4 i4 (.bool false) 1 Try.underlying45 q1 q2 q3 _ _ _ _ n rfl rfl rfl rfl (by rw [q4]; omega) (by unfold maxLen; omega) (Nat.zero_le _) ?_)
  intro w1 hown hgrow
  rw [toList_madeCells_one] at hown
  obtain ⟨gU, GU⟩ : ∃ g, Hid (w0.heap.size = g) := ⟨_, rfl⟩
  have HU : Hid (Marks w1 gU (List.replicate n false)) := by
    unfold Hid Marks
    rw [← GU.out, List.length_replicate, List.map_replicate]
    exact hown
  have HB1 : Hid (Below w0.heap.size w0 w1) := below_of_grown hgrow
  have HUS : Hid (w0.heap.size ≤ gU) := by rw [← GU.out]; exact Nat.le_refl _
  rw [GU.out] at lM lh
  rw [GU.out]
  clear hown hgrow q1 q2 q3 q4 hc
  go_wp2
  go_loopw [6] (fun i wr => ∃ (k : Nat) (u : List Bool), i = .int .i64 k ∧ k ≤ n ∧ u.length = n ∧ Below w0.heap.size w0 wr ∧ Marks wr gU u ∧ (left u m).Perm (l.drop k)) (fun i _ => n - (intOf i).toNat)
  case atStart => exact ⟨0, _, rfl, Nat.zero_le _, by simp, HB1.out, HU.out, by rw [HM.out, left_all]; exact HP.out.symm⟩
  case round =>
    clear HU HB1
    obtain ⟨k, u, rfl, hk, hul, hB, hU, hL⟩ := hrel
    by_cases hlt : k < n
    · have hltI : (k : Int) < (n : Int) := by omega
      obtain ⟨x, hx⟩ : ∃ x, l[k]? = some x := ⟨_, List.getElem?_eq_getElem (by rw [← HN.out]; exact hlt)⟩
      have HX : Hid (l[k]? = some x) := hx
      have HUl : Hid (u.length = n) := hul
      have HB : Hid (Below w0.heap.size w0 wr) := hB
      have HU : Hid (Marks wr gU u) := hU
      have HL : Hid ((left u m).Perm (l.drop k)) := hL
      clear hx hul hB hU hL
      go_wp2_with fail
      refine (hfrom_any base gh k l x _ (HH.out.below HB.out) HX.out).mono ?_
      rintro e w2 ⟨rfl, hg2⟩
      have hs2 := hg2.size
      have HU2 : Hid (Marks (w2.alloc (.cells (rc x) 36)) gU u) := HU.out.kept (grown_trans hg2 (grown_alloc _ _ _)) (by simp)
      have HB2 : Hid (Below w0.heap.size w0 (w2.alloc (.cells (rc x) 36))) := HB.out.grown (grown_trans hg2 (grown_alloc _ _ _)) HB.out.size (fun k hk => by cases hk)
      have HK2 : Hid ((w2.alloc (.cells (rc x) 36)).heap[w2.heap.size]? = some (.cells (rc x) 36 (0, 0))) := heap_alloc_new w2 _
      have hux : gU < w2.heap.size := Nat.lt_of_lt_of_le (World.ownsRow.lt HU.out gU rfl).2 hs2
      clear hg2 hs2
      obtain ⟨gX, GX⟩ : ∃ g, Hid (w2.heap.size = g) := ⟨_, rfl⟩
      obtain ⟨w3, hw3⟩ : ∃ W, w2.alloc (.cells (rc x) 36) = W := ⟨_, rfl⟩
      rw [hw3, GX.out] at HK2
      rw [hw3] at HU2 HB2
      rw [GX.out] at hux
      have HW3 : Hid (w2.alloc (.cells #[.int .i64 x.1, .int .u32 x.2.1, .int .u32 x.2.2.1, .int .u32 x.2.2.2] 36) = w3) := hw3
      clear hw3
      go_wp2
      rw [HW3.out, GX.out]
      clear HW3
      have HK2 : Hid (w3.heap[gX]? = some (.cells #[.int .i64 x.1, .int .u32 x.2.1, .int .u32 x.2.2.1, .int .u32 x.2.2.2] 36 (0, 0))) := HK2
      obtain ⟨j0, hj0, hj1⟩ := left_find HL.out HX.out
      have HJ0 : Hid (u[j0]? = some false ∧ m[j0]? = some x) := ⟨hj0, hj1⟩
      clear hj0 hj1
      have HXU : Hid (gX ≠ gU) := by unfold Hid; omega
      go_loopw [8, 9] (fun f i wq => ∃ j : Nat, i = .int .i64 j ∧ j ≤ n ∧ Below w0.heap.size w0 wq ∧ wq.heap[gX]? = some (.cells #[.int .i64 x.1, .int .u32 x.2.1, .int .u32 x.2.2.1, .int .u32 x.2.2.2] 36 (0, 0)) ∧
          ((f = .bool false ∧ Marks wq gU u ∧ j ≤ j0) ∨ (f = .bool true ∧ ∃ jj : Nat, u[jj]? = some false ∧ m[jj]? = some x ∧ Marks wq gU (u.set jj true)))) (fun _ i _ => n - (intOf i).toNat)
      case atStart => exact ⟨0, rfl, Nat.zero_le _, HB2.out, HK2.out, .inl ⟨rfl, HU2.out, Nat.zero_le _⟩⟩
      case round =>
        clear HU2 HB2 HK2 HB HU
        obtain ⟨j, rfl, hj, hB, hK, hcase⟩ := hrel
        rcases hcase with ⟨rfl, hM, hjj⟩ | ⟨rfl, jj, hj1, hj2, hM⟩
        · have hjlt : j < n := by
            have h1 := (List.getElem?_eq_some_iff.1 HJ0.out.1).1
            have h2 := HUl.out
            omega
          have hjI : (j : Int) < (n : Int) := by omega
          have hj0I : (0 : Int) ≤ (j : Int) := by omega
          obtain ⟨b, hb⟩ : ∃ b, u[j]? = some b := ⟨_, List.getElem?_eq_getElem (by have := HUl.out; omega)⟩
          obtain ⟨y, hy⟩ : ∃ y, m[j]? = some y := ⟨_, List.getElem?_eq_getElem (by rw [← HM.out]; exact hjlt)⟩
          obtain ⟨cU, fU⟩ := hM.cell j hb
          obtain ⟨m0, m1, m2, m3⟩ := (HO.out.below hB).cells j y hy
          have x0 : wr.cell? ⟨gX, 0, none⟩ = some (.int .i64 x.1) := by rw [cell_of_row wr gX 0 _ _ _ hK]; rfl
          have x1 : wr.cell? ⟨gX, 1, none⟩ = some (.int .u32 x.2.1) := by rw [cell_of_row wr gX 1 _ _ _ hK]; rfl
          have x2 : wr.cell? ⟨gX, 2, none⟩ = some (.int .u32 x.2.2.1) := by rw [cell_of_row wr gX 2 _ _ _ hK]; rfl
          have x3 : wr.cell? ⟨gX, 3, none⟩ = some (.int .u32 x.2.2.2) := by rw [cell_of_row wr gX 3 _ _ _ hK]; rfl
          have HB : Hid (Below w0.heap.size w0 wr) := hB
          have HK : Hid (wr.heap[gX]? = some (.cells #[.int .i64 x.1, .int .u32 x.2.1, .int .u32 x.2.2.1, .int .u32 x.2.2.2] 36 (0, 0))) := hK
          have HMk : Hid (Marks wr gU u) := hM
          have HUj : Hid (u[j]? = some b) := hb
          have HMj : Hid (m[j]? = some y) := hy
          clear hB hK hM hb hy
          cases b with
          | true =>
            have HJlt : Hid (j + 1 ≤ j0) := by
              unfold Hid
              rcases Nat.lt_or_ge j j0 with h | h
              · exact h
              · exfalso
                have e : j = j0 := by omega
                have h1 := HUj.out
                rw [e, HJ0.out.1] at h1
                cases h1
            go_wp2
            go_quiet (fail)
            go_wp2
            go_roundw
            case rel => exact ⟨j + 1, by go_num, by omega, below_drewN HB.out _, HK.out, .inl ⟨rfl, HMk.out.kept (grown_drewN _ _ none) (by simp), HJlt.out⟩⟩
            case measure => simp [intOf]; omega
          | false =>
            by_cases hyx : y = x
            · subst hyx
              go_wp2
              go_quiet (fail)
              go_wp2
              go_roundw
              case rel =>
                refine ⟨j + 1, by go_num, by omega, (below_drewN HB.out _).setCell HUS.out _, (heap_setCell_other _ _ _ _ HXU.out).trans HK.out, .inr ⟨rfl, j, HUj.out, HMj.out, ?_⟩⟩
                exact (HMk.out.kept (grown_drewN wr nq none) (by simp)).set j
              case measure => simp [intOf]; omega
            · have HJlt : Hid (j + 1 ≤ j0) := by
                unfold Hid
                rcases Nat.lt_or_ge j j0 with h | h
                · exact h
                · exfalso
                  have e : j = j0 := by omega
                  have h1 := HMj.out
                  rw [e, HJ0.out.2] at h1
                  exact hyx (by simpa using h1.symm)
              rcases rid_ne hyx with e1 | ⟨e1, e2⟩ | ⟨e1, e2, e3⟩ | ⟨e1, e2, e3, e4⟩
              all_goals
                clear hyx
                go_wp2
                go_quiet (fail)
                go_wp2
                go_roundw
                case rel => exact ⟨j + 1, by go_num, by omega, below_drewN HB.out _, HK.out, .inl ⟨rfl, HMk.out.kept (grown_drewN _ _ none) (by simp), HJlt.out⟩⟩
                case measure => simp [intOf]; omega
        · have HR : Hid (Below w0.heap.size w0 wr ∧ Marks wr gU (u.set jj true) ∧ (left (u.set jj true) m).Perm (l.drop (k + 1))) := ⟨hB, hM, left_step HL.out HX.out hj1 hj2⟩
          clear hB hK hM hj1 hj2
          by_cases hjl : j < n
          · have hjlI : (j : Int) < (n : Int) := by omega
            go_wp2
            go_roundw
            case rel => exact ⟨k + 1, _, by go_num, by omega, by rw [List.length_set]; exact HUl.out, HR.out.1, HR.out.2.1, HR.out.2.2⟩
            case measure => simp [intOf]; omega
          · have hjlI : ¬ (j : Int) < (n : Int) := by omega
            go_wp2
            go_roundw
            case rel => exact ⟨k + 1, _, by go_num, by omega, by rw [List.length_set]; exact HUl.out, HR.out.1, HR.out.2.1, HR.out.2.2⟩
            case measure => simp [intOf]; omega
    · go_wp2
      go_ret
      exact ⟨rfl, hB⟩
end Go.Proofs.Qxb6003817a
