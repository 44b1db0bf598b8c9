/-
  The operations that came in; 'zzPopsOnlyWhenNonempty'.
-/
import Derived.Test.Qxb6003817aOwn
namespace Go.Proofs.Qxb6003817a
open Go.RowKit

/-- The first n operations at the address ao: 'bp j': is it a push; 'rp j': its rider. -/
def OpsAt (w : World) (ao : Option Addr) (n : Nat) (bp : Nat → Bool) (rp : Nat → Rid) : Prop :=
  ∀ j, j < n → ∃ b off, ao = some ⟨b, off, none⟩ ∧ w.cell? ⟨b, off + j * 5, none⟩ = some (.bool (bp j)) ∧ w.cell? ⟨b, off + j * 5 + 1, none⟩ = some (.int .i64 (rp j).1) ∧ w.cell? ⟨b, off + j * 5 + 2, none⟩ = some (.int .u32 (rp j).2.1) ∧
    w.cell? ⟨b, off + j * 5 + 3, none⟩ = some (.int .u32 (rp j).2.2.1) ∧ w.cell? ⟨b, off + j * 5 + 4, none⟩ = some (.int .u32 (rp j).2.2.2)

theorem OpsAt.below {w w' : World} {B : Nat} {ao : Option Addr} {n : Nat} {bp : Nat → Bool} {rp : Nat → Rid} (h : OpsAt w ao n bp rp) (hb : Below B w w') (hB : w.heap.size ≤ B) : OpsAt w' ao n bp rp := by
  intro j hj
  obtain ⟨b, off, h0, h1, h2, h3, h4, h5⟩ := h j hj
  have hlt : b < B := Nat.lt_of_lt_of_le (World.block_lt_of_cell? w _ h1) hB
  exact ⟨b, off, h0, (hb.cell hlt).trans h1, (hb.cell hlt).trans h2, (hb.cell hlt).trans h3, (hb.cell hlt).trans h4, (hb.cell hlt).trans h5⟩

/-- How many riders the heap holds behind the first j operations (none: a pop met an empty heap). -/
def cntF (bp : Nat → Bool) : Nat → Option Nat
  | 0 => some 0
  | j + 1 => match cntF bp j with
    | none => none
    | some c => if bp j then some (c + 1) else if c = 0 then none else some (c - 1)

theorem cntF_push {bp : Nat → Bool} {j c : Nat} (h : cntF bp j = some c) (hb : bp j = true) : cntF bp (j + 1) = some (c + 1) := by simp [cntF, h, hb]
theorem cntF_pop {bp : Nat → Bool} {j c : Nat} (h : cntF bp j = some c) (hb : bp j = false) (hc : 0 < c) : cntF bp (j + 1) = some (c - 1) := by simp [cntF, h, hb]; omega
theorem cntF_bad {bp : Nat → Bool} {j : Nat} (h : cntF bp j = some 0) (hb : bp j = false) : cntF bp (j + 1) = none := by simp [cntF, h, hb]
theorem cntF_none {bp : Nat → Bool} {j : Nat} (h : cntF bp j = none) : ∀ m, cntF bp (j + m) = none
  | 0 => h
  | m + 1 => by show cntF bp (j + m + 1) = none; simp [cntF, cntF_none h m]
theorem cntF_le {bp : Nat → Bool} : ∀ j c, cntF bp j = some c → c ≤ j
  | 0, c, h => by simp [cntF] at h; omega
  | j + 1, c, h => by
    cases hj : cntF bp j with
    | none => simp [cntF, hj] at h
    | some d =>
      have := cntF_le j d hj
      simp only [cntF, hj] at h
      by_cases hb : bp j = true
      · simp [hb] at h; omega
      · by_cases hd : d = 0
        · simp [hb, hd] at h
        · simp [hb, hd] at h; omega

/-- Where all n operations are in order, so are the first j. -/
theorem cntF_some {bp : Nat → Bool} {n j : Nat} (h : (cntF bp n).isSome = true) (hj : j ≤ n) : ∃ c, cntF bp j = some c := by
  cases hc : cntF bp j with
  | some c => exact ⟨c, rfl⟩
  | none =>
    have := cntF_none hc (n - j)
    rw [show j + (n - j) = n by omega] at this
    rw [this] at h
    simp at h

set_option maxHeartbeats 400000 in
theorem pops_any (ao : Option Addr) (n cap : Nat) (bp : Nat → Bool) (rp : Nat → Rid) (w : World) (hn : n ≤ 65536) (h : OpsAt w ao n bp rp) :
    Calls Try.prog 4 #[.slice ao n cap] w fun e w' => e = .returned (.bool (cntF bp n).isSome) ∧ w' = w := by
  have HO : Hid (OpsAt w ao n bp rp) := h
  clear h
  go_enter Try.func4, Try.ntmps4
  go_wp2
  go_loop [3, 4] (fun sc si => ∃ k c : Nat, k ≤ n ∧ si = .int .i64 k ∧ sc = .int .i64 c ∧ cntF bp k = some c) (fun _ si => n - (intOf si).toNat)
  case atStart => exact ⟨0, 0, Nat.zero_le _, rfl, rfl, rfl⟩
  case round =>
    obtain ⟨k, c, hk, rfl, rfl, hc⟩ := hrel
    have hck := cntF_le k c hc
    have HC : Hid (cntF bp k = some c) := hc
    clear hc
    by_cases hlt : k < n
    · obtain ⟨b, off, hao, c0, -⟩ := HO.out k hlt
      subst hao
      have hltI : (k : Int) < (n : Int) := by omega
      cases hb : bp k with
      | true =>
        rw [hb] at c0
        have HB : Hid (bp k = true) := hb
        clear hb
        go_wp2
        go_round
        case rel => exact ⟨k + 1, c + 1, by omega, by go_num, by go_num, cntF_push HC.out HB.out⟩
        case measure => simp [intOf]; omega
      | false =>
        rw [hb] at c0
        have HB : Hid (bp k = false) := hb
        clear hb
        by_cases hc0 : c = 0
        · subst hc0
          have HE : Hid ((cntF bp n).isSome = false) := by
            have h1 := cntF_none (cntF_bad HC.out HB.out) (n - (k + 1))
            rw [show k + 1 + (n - (k + 1)) = n by omega] at h1
            unfold Hid
            rw [h1]
            rfl
          go_wp2
          go_ret
          rw [HE.out]
          exact ⟨rfl, rfl⟩
        · have hc1 : 0 < c := by omega
          go_wp2
          go_round
          case rel => exact ⟨k + 1, c - 1, by omega, by go_num, by go_num, cntF_pop HC.out HB.out hc1⟩
          case measure => simp [intOf]; omega
    · have e : n = k := by omega
      subst e
      go_wp2
      go_ret
      rw [HC.out]
      exact ⟨rfl, rfl⟩
end Go.Proofs.Qxb6003817a
