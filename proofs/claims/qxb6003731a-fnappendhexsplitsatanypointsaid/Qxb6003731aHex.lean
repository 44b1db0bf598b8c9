/-
  'appendHex' and its export, by one contract each.
-/
import Derived.Test.Qxb6003731aCopy
import Derived.Deep.RegionHeld3
import Derived.Deep.AppendLies
namespace Go.Proofs.Qxb6003731a
open Go.RowKit

/-- The upper-case hex digit of d. -/
def hd (d : Nat) : Nat := if d < 10 then 48 + d else 55 + d
/-- The escape of the octets l. -/
def hexl (l : List Nat) : List Nat := l.flatMap (fun o => [92, hd (o / 16), hd (o % 16)])

theorem hexl_snoc (l : List Nat) (k : Nat) (hk : k < l.length) : hexl (l.take (k + 1)) = hexl (l.take k) ++ [92, hd (l[k]?.getD 0 / 16), hd (l[k]?.getD 0 % 16)] := by
  unfold hexl
  rw [List.take_succ_eq_append_getElem hk, List.flatMap_append]
  simp [hk]

theorem hexl_len (l : List Nat) : (hexl l).length = 3 * l.length := by
  induction l with
  | nil => rfl
  | cons x r ih => simp only [hexl, List.flatMap_cons, List.length_append, List.length_cons, List.length_nil] at ih ⊢; omega

/-- The digits' text. -/
abbrev digits : ByteArray := { data := #[48, 49, 50, 51, 52, 53, 54, 55, 56, 57, 65, 66, 67, 68, 69, 70] }

theorem digits_at : ∀ (q : Nat) (h : q < digits.size), (digits[q]'h).toNat = hd q
  | 0, _ | 1, _ | 2, _ | 3, _ | 4, _ | 5, _ | 6, _ | 7, _ | 8, _ | 9, _ | 10, _ | 11, _ | 12, _ | 13, _ | 14, _ | 15, _ => rfl
  | q + 16, h => absurd h (by show ¬ (q + 16 < 16); omega)

theorem digits_int (x : Int) (q : Nat) (hx : x = (q : Int)) (h : x.toNat < digits.size) : (((digits[x.toNat]'h).toNat : Nat) : Int) = ((hd q : Nat) : Int) := by
  subst hx
  rw [digits_at]
  simp

theorem bv_append (a b : List Nat) : bv (a ++ b) = bv a ++ bv b := by simp [bv]

theorem grown_drew_alloc (w : World) (o : Obj) : w.grownBy (w.alloc o).drew none :=
  have h := World.grownBy_alloc w o none
  ⟨h.os, h.tape, h.output, h.size, h.block⟩

/-- What one append does to the relation. -/
theorem hex_step {w wr W w1 : World} {vb u : Value} {gg : Nat} (hgr : w.grownBy wr vb.ownBlock) (hat : u.ownBlock = vb.ownBlock ∨ ∃ g, u.ownBlock = some g ∧ w.heap.size ≤ g)
    (hW : wr.grownBy W none) (hgrow : W.grownBy w1 u.ownBlock) (hat1 : u.ownBlock = some gg ∨ gg = wr.heap.size + 1) :
    w.grownBy w1 vb.ownBlock ∧ (some gg = vb.ownBlock ∨ ∃ g, some gg = some g ∧ w.heap.size ≤ g) := by
  refine ⟨⟨hgrow.os.trans (hW.os.trans hgr.os), hgrow.tape.trans (hW.tape.trans hgr.tape), hgrow.output.trans (hW.output.trans hgr.output),
    Nat.le_trans hgr.size (Nat.le_trans hW.size hgrow.size), fun k hk hne => ?_⟩, ?_⟩
  · have h1 : k < wr.heap.size := Nat.lt_of_lt_of_le hk hgr.size
    have h2 : some k ≠ u.ownBlock := by
      rcases hat with h | ⟨g, h, hg⟩
      · rw [h]; exact hne
      · rw [h]; intro e; simp only [Option.some.injEq] at e; omega
    rw [hgrow.block k (Nat.lt_of_lt_of_le h1 hW.size) h2, hW.block k h1 (by simp), hgr.block k hk hne]
  · rcases hat1 with h1 | h1
    · rcases hat with h | ⟨g, h, hg⟩
      · exact .inl (h1.symm.trans h)
      · exact .inr ⟨g, h1.symm.trans h, hg⟩
    · exact .inr ⟨gg, rfl, by have := hgr.size; omega⟩

theorem and15 (o : Nat) (h : o < 256) : bits BinOp.and IntKind.u8 (o : Int) 15 = (o : Int) % 16 := by
  have h3 := u8_and_nat o 15 h (by decide)
  rw [show (15 : Int) = ((15 : Nat) : Int) from rfl, h3, show (15 : Nat) = 2 ^ 4 - 1 from rfl, Nat.and_two_pow_sub_one_eq_mod]
  omega

set_option maxRecDepth 100000 in
set_option maxHeartbeats 1000000 in
theorem hex_some (vb : Value) (nb base no cap : Nat) (lb lo : List Nat) (a : Addr) (HN : Hid (no = lo.length)) (w : World) (hown : w.ownsRow base 5 1 vb nb (bv lb)) (hbase : base ≤ w.heap.size)
    (hc : Bytes w (some a) lo) (hfar : vb.ownBlock ≠ some a.block) (hnb : nb ≤ 4194304) (hno : no ≤ 1048576) :
    Calls Try.prog 18 #[vb, .slice (some a) no cap] w fun e w' => ∃ v, e = .returned v ∧ w'.ownsRow base 5 1 v (nb + 3 * no) (bv (lb ++ hexl lo)) ∧ w.grownBy w' vb.ownBlock ∧
      (v.ownBlock = vb.ownBlock ∨ ∃ g, v.ownBlock = some g ∧ w.heap.size ≤ g) := by
  obtain ⟨i0, hi, hz0, hz1, hz2⟩ := info_parts Try.info5
  go_enter Try.func18, Try.ntmps18
  go_wp2
  go_loopw [0, 9] (fun v i wr => ∃ k : Nat, k ≤ no ∧ i = .int .i64 k ∧ wr.ownsRow base 5 1 v (nb + 3 * k) (bv (lb ++ hexl (lo.take k))) ∧ w.grownBy wr vb.ownBlock ∧ (v.ownBlock = vb.ownBlock ∨ ∃ g, v.ownBlock = some g ∧ w.heap.size ≤ g)) (fun _ i _ => no - (intOf i).toNat)
  case atStart => exact ⟨0, Nat.zero_le _, rfl, by simpa [hexl] using hown, World.grownBy.refl _ _, .inl rfl⟩
  case round =>
    obtain ⟨k, hk, rfl, hownr, hgr, hat⟩ := hrel
    by_cases hlt : k < no
    · obtain ⟨hb0, b, off, ha, hcell⟩ := hc k (by rw [← HN.out]; exact hlt)
      simp only [Option.some.injEq] at ha
      subst ha
      have hcx : wr.cell? ⟨b, off + k, none⟩ = some (.int .u8 ((lo[k]?.getD 0 : Nat) : Int)) := hgr.cell hcell (fun e => hfar e.symm)
      have HX : Hid (hexl (lo.take (k + 1)) = hexl (lo.take k) ++ [92, hd (lo[k]?.getD 0 / 16), hd (lo[k]?.getD 0 % 16)]) := hexl_snoc lo k (by rw [← HN.out]; exact hlt)
      simp only at hb0
      obtain ⟨o, ho⟩ : ∃ o : Nat, o = lo[k]?.getD 0 := ⟨_, rfl⟩
      rw [← ho] at hcx hb0 HX
      have hsz := hgr.size
      clear ho hc hcell hown
      have h1 : (0 : Int) ≤ (o : Int) / 16 := by omega
      have h2 : (o : Int) / 16 < 16 := by omega
      have h3 := and15 o hb0
      have HG : Hid (w.grownBy wr vb.ownBlock) := hgr
      have HA : Hid (u0.ownBlock = vb.ownBlock ∨ ∃ g, u0.ownBlock = some g ∧ w.heap.size ≤ g) := hat
      clear hgr hat
      have HO : Hid (wr.ownsRow base 5 1 u0 (nb + 3 * k) (bv (lb ++ hexl (lo.take k)))) := hownr
      clear hownr
      have d1 : ((o : Int) / 16).toNat < digits.size := by show _ < 16; omega
      have d2 : ((o : Int) % 16).toNat < digits.size := by show _ < 16; omega
      go_wp2_with fail
      go_region_held3 (fun w' => True) (trivial)
        ((refine step_append_lies _ (by rfl) _ _ _ (by rfl) base 5 i0 _ 1 1 Try.underlying22 hi hz0 hz1 hz2 rfl (by omega) u0 (nb + 3 * k) _ (by rfl) ((HO.out.alloc _).drew) ⟨wr.heap.size, 0, none⟩ 3 3 [.int .u8 92, .int .u8 (((digits[((o : Int) / 16).toNat]'d1).toNat : Nat) : Int), .int .u8 (((digits[((o : Int) % 16).toNat]'d2).toNat : Nat) : Int)] (by rfl) (by rfl) (World.news_of_block (cs := #[.int .u8 92, .int .u8 (((digits[((o : Int) / 16).toNat]'d1).toNat : Nat) : Int), .int .u8 (((digits[((o : Int) % 16).toNat]'d2).toNat : Nat) : Int)]) (t := 5) (fr := (0, 0)) (heap_alloc_new wr _)) (by simp [Value.oneCell']) (by omega) (by unfold maxLen; omega) (by omega) (by simp; omega) (wr.heap.size + 1) (by simp) ?_; intro gg cap1 w1 hown1 hgrow hat1 hlt1))
      all_goals
        have hst := hex_step HG.out HA.out (grown_drew_alloc wr _) hgrow hat1
        have HS : Hid _ := hst
        have HW : Hid (w1.ownsRow base 5 1 (.slice (some ⟨gg, 0, none⟩) (nb + 3 * k + 3) cap1) (nb + 3 * (k + 1)) (bv (lb ++ hexl (lo.take (k + 1))))) := by
          have e : bv (lb ++ hexl (lo.take (k + 1))) = bv (lb ++ hexl (lo.take k)) ++ [.int .u8 92, .int .u8 (((digits[((o : Int) / 16).toNat]'d1).toNat : Nat) : Int), .int .u8 (((digits[((o : Int) % 16).toNat]'d2).toNat : Nat) : Int)] := by
            rw [digits_int _ (o / 16) (by omega), digits_int _ (o % 16) (by omega), HX.out, ← List.append_assoc, bv_append]
            rfl
          rw [e, show nb + 3 * (k + 1) = nb + 3 * k + 3 by omega]
          exact hown1
        clear hst hown1 hgrow hat1
        go_wp2
        go_roundw
        case rel => exact ⟨k + 1, by omega, by go_num, HW.out, HS.out.1, HS.out.2⟩
        case measure => simp [intOf]; omega
    · go_wp2
      go_ret
      have e : k = no := by omega
      subst e
      refine ⟨u0, rfl, ?_, hgr, hat⟩
      rw [HN.out, List.take_length] at hownr
      rw [HN.out]
      exact hownr

theorem hex_none (vb : Value) (nb base no cap : Nat) (lb : List Nat) (HN : Hid (no = 0)) (w : World) (hown : w.ownsRow base 5 1 vb nb (bv lb)) :
    Calls Try.prog 18 #[vb, .slice none no cap] w fun e w' => ∃ v, e = .returned v ∧ w'.ownsRow base 5 1 v (nb + 3 * no) (bv (lb ++ hexl [])) ∧ w.grownBy w' vb.ownBlock ∧
      (v.ownBlock = vb.ownBlock ∨ ∃ g, v.ownBlock = some g ∧ w.heap.size ≤ g) := by
  have h := HN.out
  subst h
  go_enter Try.func18, Try.ntmps18
  go_wp2
  refine wp_loop_rounds 1 ?_
  rw [rounds_succ]
  go_wp2
  go_ret
  exact ⟨vb, rfl, by simpa [hexl] using hown, World.grownBy.refl _ _, .inl rfl⟩

/-- 'appendHex' onto a row that the call owns. -/
theorem hex_any (vb : Value) (nb base no cap : Nat) (lb lo : List Nat) (ao : Option Addr) (HN : Hid (no = lo.length)) (w : World) (hown : w.ownsRow base 5 1 vb nb (bv lb)) (hbase : base ≤ w.heap.size)
    (hc : Bytes w ao lo) (hfar : ∀ a, ao = some a → vb.ownBlock ≠ some a.block) (hnb : nb ≤ 4194304) (hno : no ≤ 1048576) :
    Calls Try.prog 18 #[vb, .slice ao no cap] w fun e w' => ∃ v, e = .returned v ∧ w'.ownsRow base 5 1 v (nb + 3 * no) (bv (lb ++ hexl lo)) ∧ w.grownBy w' vb.ownBlock ∧
      (v.ownBlock = vb.ownBlock ∨ ∃ g, v.ownBlock = some g ∧ w.heap.size ≤ g) := by
  cases ao with
  | some a => exact hex_some vb nb base no cap lb lo a HN w hown hbase hc (hfar a rfl) hnb hno
  | none =>
    cases lo with
    | nil => exact hex_none vb nb base no cap lb HN w hown
    | cons x r =>
      obtain ⟨_, b, off, h, _⟩ := hc 0 (by simp)
      cases h

/-- 'ZZappendHex' the same. -/
theorem zhex_any (vb : Value) (nb base no cap : Nat) (lb lo : List Nat) (ao : Option Addr) (HN : Hid (no = lo.length)) (w : World) (hown : w.ownsRow base 5 1 vb nb (bv lb)) (hbase : base ≤ w.heap.size)
    (hc : Bytes w ao lo) (hfar : ∀ a, ao = some a → vb.ownBlock ≠ some a.block) (hnb : nb ≤ 4194304) (hno : no ≤ 1048576) :
    Calls Try.prog 9 #[vb, .slice ao no cap] w fun e w' => ∃ v, e = .returned v ∧ w'.ownsRow base 5 1 v (nb + 3 * no) (bv (lb ++ hexl lo)) ∧ w.grownBy w' vb.ownBlock ∧
      (v.ownBlock = vb.ownBlock ∨ ∃ g, v.ownBlock = some g ∧ w.heap.size ≤ g) := by
  have HF : Hid (∀ a, ao = some a → vb.ownBlock ≠ some a.block) := hfar
  clear hfar
  go_enter Try.func9, Try.ntmps9
  go_wp2_with (go_at_call 18; refine (hex_any vb nb base no cap lb lo ao HN w hown hbase hc HF.out hnb hno).mono ?_; rintro e w' ⟨v, rfl, h1, h2, h3⟩)
  go_ret
  exact ⟨v, rfl, h1, h2, h3⟩
end Go.Proofs.Qxb6003731a
