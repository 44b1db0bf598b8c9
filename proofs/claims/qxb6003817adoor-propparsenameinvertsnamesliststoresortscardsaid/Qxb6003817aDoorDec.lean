/-
  'zzIsDecimalOfUint64', 'zzIsCanonName'.
-/
import Derived.Test.Qxb6003817aDoorNames
namespace Go.Proofs.Qxb6003817aDoor
open Go.RowKit Go.Lib

theorem ne_empty {s : ByteArray} (h : s.size ≠ 0) : ¬ s = ByteArray.empty := fun e => h (by rw [e]; rfl)
theorem size_beq {s : ByteArray} (h : s.size ≠ 0) : ((s.size : Int) == 0) = false := by simp; exact ne_empty h

theorem byte_at (s : ByteArray) (k : Nat) (hk : k < s.size) : s[k] = s.data.toList.getD k 0 := by
  rw [List.getD, List.getElem?_eq_getElem (by rw [← Lib.size_eq]; exact hk)]
  rfl

theorem dec_short (s : ByteArray) (h : s.size = 0) (w : World) : Calls Tryd.prog 12 #[.string s] w fun e w' => e = .returned (.bool false) ∧ w' = w := by
  have hI : (s.size : Int) = 0 := by omega
  clear h
  go_enter Tryd.func12, Tryd.ntmps12
  go_wp2
  go_ret
  exact ⟨rfl, rfl⟩

theorem dec_long (s : ByteArray) (h : 20 < s.size) (w : World) : Calls Tryd.prog 12 #[.string s] w fun e w' => e = .returned (.bool false) ∧ w' = w := by
  have hI : (20 : Int) < (s.size : Int) := by omega
  have h0 := ne_empty (s := s) (by omega)
  have h1 := size_beq (s := s) (by omega)
  clear h
  go_enter Tryd.func12, Tryd.ntmps12
  go_wp2
  go_ret
  exact ⟨rfl, rfl⟩

theorem dec_lead (s : ByteArray) (h1 : 2 ≤ s.size) (h2 : s.size ≤ 20) (hz : (s.data.toList.getD 0 0).toNat = 48) (w : World) : Calls Tryd.prog 12 #[.string s] w fun e w' => e = .returned (.bool false) ∧ w' = w := by
  have hI : (s.size : Int) ≤ 20 := by omega
  have hg : (1 : Int) < (s.size : Int) := by omega
  have hn0 := ne_empty (s := s) (by omega)
  have hn1 := size_beq (s := s) (by omega)
  have hp : 0 < s.size := by omega
  have hb : ∀ h : 0 < s.size, (s[0]'h).toNat = 48 := fun h => by rw [byte_at, hz]
  clear h1 h2 hz
  go_enter Tryd.func12, Tryd.ntmps12
  go_wp2
  go_ret
  exact ⟨rfl, rfl⟩

def Dig (s : ByteArray) (k : Nat) : Prop := 48 ≤ (s.data.toList.getD k 0).toNat ∧ (s.data.toList.getD k 0).toNat ≤ 57

/-- How it ends behind the first tests. -/
def DecPost (s : ByteArray) (e : Ending) : Prop :=
  (∃ k, k < s.size ∧ ¬ Dig s k) ∧ e = .returned (.bool false) ∨ (∀ k, k < s.size → Dig s k) ∧ e = .returned (.bool (decide (s.size < 20) || (Op.bytesLess s.toList maxDec || s.toList == maxDec)))

/-- Behind the first tests. -/
theorem dec_loop (s : ByteArray) (h1 : 1 ≤ s.size) (h2 : s.size ≤ 20) (hz : 2 ≤ s.size → (s.data.toList.getD 0 0).toNat ≠ 48) (w : World) :
    Calls Tryd.prog 12 #[.string s] w fun e w' => w' = w ∧ DecPost s e := by
  have hI : (s.size : Int) ≤ 20 := by omega
  have hn0 := ne_empty (s := s) (by omega)
  have hn1 := size_beq (s := s) (by omega)
  have hp : 0 < s.size := by omega
  obtain ⟨c, hc⟩ : ∃ c : Nat, c = (s.data.toList.getD 0 0).toNat := ⟨_, rfl⟩
  have hb : ∀ h : 0 < s.size, (s[0]'h).toNat = c := fun h => by rw [byte_at, hc]
  have hz' : 2 ≤ s.size → c ≠ 48 := by rw [hc]; exact hz
  clear hz hc
  by_cases hl : 2 ≤ s.size
  · have hg : (1 : Int) < (s.size : Int) := by omega
    have hcI : ¬ (c : Int) = 48 := by have := hz' hl; omega
    clear hz' hl
    go_enter Tryd.func12, Tryd.ntmps12
    go_wp2
    go_loopw [3] (fun v wr => ∃ k : Nat, v = .int .i64 k ∧ k ≤ s.size ∧ wr = w ∧ Hid (∀ j, j < k → Dig s j)) (fun v _ => s.size - (RowKit.intOf v).toNat)
    case atStart => exact ⟨0, rfl, by omega, rfl, fun j hj => absurd hj (by omega)⟩
    case round =>
      obtain ⟨k, rfl, hk, rfl, HD⟩ := hrel
      by_cases hks : k < s.size
      · have hkI : (k : Int) < (s.size : Int) := by omega
        obtain ⟨d, hd⟩ : ∃ d : Nat, d = (s.data.toList.getD k 0).toNat := ⟨_, rfl⟩
        have hbk : ∀ h : k < s.size, (s[k]'h).toNat = d := fun h => by rw [byte_at, hd]
        have HE : Hid (d = (s.data.toList.getD k 0).toNat) := hd
        clear hd
        by_cases hlo : d < 48
        · have hloI : (d : Int) < 48 := by omega
          clear hlo
          go_wp2
          go_ret
          exact ⟨rfl, .inl ⟨⟨k, hks, by unfold Dig; rw [← HE.out]; omega⟩, rfl⟩⟩
        · have hloI : ¬ (d : Int) < 48 := by omega
          by_cases hhi : 57 < d
          · have hhiI : (57 : Int) < (d : Int) := by omega
            clear hlo hhi
            go_wp2
            go_ret
            exact ⟨rfl, .inl ⟨⟨k, hks, by unfold Dig; rw [← HE.out]; omega⟩, rfl⟩⟩
          · have hhiI : (d : Int) ≤ 57 := by omega
            clear hlo hhi
            go_wp2
            go_roundw
            case rel => exact ⟨k + 1, by go_num, by omega, by first | rfl | trivial, fun j hj => by
              by_cases hjk : j = k
              · subst hjk; unfold Dig; rw [← HE.out]; omega
              · exact HD.out j (by omega)⟩
            case measure => simp [RowKit.intOf]; omega
      · have e : k = s.size := by omega
        have hkI : ¬ (k : Int) < (s.size : Int) := by omega
        have HE : Hid (k = s.size) := e
        clear e hks
        by_cases h20 : s.size < 20
        · have h20I : (s.size : Int) < 20 := by omega
          clear h20
          go_wp2
          go_ret
          refine ⟨rfl, .inr ⟨fun j hj => HD.out j (by rw [HE.out]; exact hj), ?_⟩⟩
          show Ending.returned (.bool true) = _
          rw [decide_eq_true (show s.size < 20 by omega), Bool.true_or]
        · have h20I : ¬ (s.size : Int) < 20 := by omega
          clear h20
          go_wp2
          go_ret
          refine ⟨rfl, .inr ⟨fun j hj => HD.out j (by rw [HE.out]; exact hj), ?_⟩⟩
          show Ending.returned (.bool (Op.bytesLess s.toList maxDec || s.toList == maxDec)) = _
          rw [decide_eq_false (show ¬ s.size < 20 by omega), Bool.false_or]
  · have hg : ¬ (1 : Int) < (s.size : Int) := by omega
    clear hz' hl
    go_enter Tryd.func12, Tryd.ntmps12
    go_wp2
    go_loopw [3] (fun v wr => ∃ k : Nat, v = .int .i64 k ∧ k ≤ s.size ∧ wr = w ∧ Hid (∀ j, j < k → Dig s j)) (fun v _ => s.size - (RowKit.intOf v).toNat)
    case atStart => exact ⟨0, rfl, by omega, rfl, fun j hj => absurd hj (by omega)⟩
    case round =>
      obtain ⟨k, rfl, hk, rfl, HD⟩ := hrel
      by_cases hks : k < s.size
      · have hkI : (k : Int) < (s.size : Int) := by omega
        obtain ⟨d, hd⟩ : ∃ d : Nat, d = (s.data.toList.getD k 0).toNat := ⟨_, rfl⟩
        have hbk : ∀ h : k < s.size, (s[k]'h).toNat = d := fun h => by rw [byte_at, hd]
        have HE : Hid (d = (s.data.toList.getD k 0).toNat) := hd
        clear hd
        by_cases hlo : d < 48
        · have hloI : (d : Int) < 48 := by omega
          clear hlo
          go_wp2
          go_ret
          exact ⟨rfl, .inl ⟨⟨k, hks, by unfold Dig; rw [← HE.out]; omega⟩, rfl⟩⟩
        · have hloI : ¬ (d : Int) < 48 := by omega
          by_cases hhi : 57 < d
          · have hhiI : (57 : Int) < (d : Int) := by omega
            clear hlo hhi
            go_wp2
            go_ret
            exact ⟨rfl, .inl ⟨⟨k, hks, by unfold Dig; rw [← HE.out]; omega⟩, rfl⟩⟩
          · have hhiI : (d : Int) ≤ 57 := by omega
            clear hlo hhi
            go_wp2
            go_roundw
            case rel => exact ⟨k + 1, by go_num, by omega, by first | rfl | trivial, fun j hj => by
              by_cases hjk : j = k
              · subst hjk; unfold Dig; rw [← HE.out]; omega
              · exact HD.out j (by omega)⟩
            case measure => simp [RowKit.intOf]; omega
      · have e : k = s.size := by omega
        have hkI : ¬ (k : Int) < (s.size : Int) := by omega
        have HE : Hid (k = s.size) := e
        clear e hks
        by_cases h20 : s.size < 20
        · have h20I : (s.size : Int) < 20 := by omega
          clear h20
          go_wp2
          go_ret
          refine ⟨rfl, .inr ⟨fun j hj => HD.out j (by rw [HE.out]; exact hj), ?_⟩⟩
          show Ending.returned (.bool true) = _
          rw [decide_eq_true (show s.size < 20 by omega), Bool.true_or]
        · have h20I : ¬ (s.size : Int) < 20 := by omega
          clear h20
          go_wp2
          go_ret
          refine ⟨rfl, .inr ⟨fun j hj => HD.out j (by rw [HE.out]; exact hj), ?_⟩⟩
          show Ending.returned (.bool (Op.bytesLess s.toList maxDec || s.toList == maxDec)) = _
          rw [decide_eq_false (show ¬ s.size < 20 by omega), Bool.false_or]

theorem dig_all {s : ByteArray} : (∀ k, k < s.size → Dig s k) ↔ AllDig s.data.toList := by
  constructor
  · intro h b hb
    obtain ⟨k, hk, e⟩ := List.getElem_of_mem hb
    have := h k (by rw [Lib.size_eq]; exact hk)
    unfold Dig at this
    rw [List.getD, List.getElem?_eq_getElem hk, e] at this
    exact this
  · intro h k hk
    rw [Lib.size_eq] at hk
    unfold Dig
    rw [List.getD, List.getElem?_eq_getElem hk]
    exact h _ (List.getElem_mem hk)

theorem lead_iff (l : List UInt8) : (∀ c r, l = c :: r → r ≠ [] → c.toNat ≠ 48) ↔ (2 ≤ l.length → (l.getD 0 0).toNat ≠ 48) := by
  cases l with
  | nil => simp
  | cons x r =>
    constructor
    · intro h h2
      exact h x r rfl (by intro e; rw [e] at h2; simp at h2)
    · intro h c r' e hr
      obtain ⟨rfl, rfl⟩ := List.cons.inj e
      exact h (by cases r with | nil => exact absurd rfl hr | cons _ _ => simp)

/-- 'zzIsDecimalOfUint64'. -/
theorem dec_any (s : ByteArray) (w : World) : Calls Tryd.prog 12 #[.string s] w fun e w' => (∃ b : Bool, e = .returned (.bool b) ∧ (b = true ↔ IsDec s.data.toList)) ∧ w' = w := by
  have hsz := Lib.size_eq s
  by_cases h0 : s.size = 0
  · refine (dec_short s h0 w).mono ?_
    rintro e w' ⟨rfl, rfl⟩
    refine ⟨⟨false, rfl, ?_⟩, rfl⟩
    constructor
    · intro h; cases h
    · intro h; exact absurd (List.length_eq_zero_iff.1 (by omega)) h.1
  · by_cases h20 : 20 < s.size
    · refine (dec_long s h20 w).mono ?_
      rintro e w' ⟨rfl, rfl⟩
      refine ⟨⟨false, rfl, ?_⟩, rfl⟩
      constructor
      · intro h; cases h
      · intro h; have := h.2.1; omega
    · by_cases hl : 2 ≤ s.size ∧ (s.data.toList.getD 0 0).toNat = 48
      · refine (dec_lead s hl.1 (by omega) hl.2 w).mono ?_
        rintro e w' ⟨rfl, rfl⟩
        refine ⟨⟨false, rfl, ?_⟩, rfl⟩
        constructor
        · intro h; cases h
        · intro h; exact absurd hl.2 ((lead_iff _).1 h.2.2.1 (by omega))
      · refine (dec_loop s (by omega) (by omega) (fun h e => hl ⟨h, e⟩) w).mono ?_
        rintro e w' ⟨rfl, (⟨⟨k, hk, hd⟩, rfl⟩ | ⟨hd, rfl⟩)⟩
        · refine ⟨⟨false, rfl, ?_⟩, rfl⟩
          constructor
          · intro h; cases h
          · intro h; exact absurd (dig_all.2 h.2.2.2.1 k hk) hd
        · refine ⟨⟨_, rfl, ?_⟩, rfl⟩
          have e : s.toList = s.data.toList := Lib.toList_data s
          rw [e]
          constructor
          · intro h
            refine ⟨fun h' => ?_, by omega, (lead_iff _).2 (fun h2 h3 => hl ⟨by omega, h3⟩), dig_all.1 hd, ?_⟩
            · rw [h'] at hsz; exact h0 hsz
            · rcases Bool.or_eq_true_iff.1 h with h | h
              · exact .inl (by rw [← hsz]; exact of_decide_eq_true h)
              · exact .inr h
          · intro h
            rcases h.2.2.2.2 with h | h
            · rw [decide_eq_true (show s.size < 20 by omega), Bool.true_or]
            · rw [h, Bool.or_true]
end Go.Proofs.Qxb6003817aDoor
