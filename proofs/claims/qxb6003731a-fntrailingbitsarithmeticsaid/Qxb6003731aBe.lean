/-
  'zzBigEndian64' by its contract.
-/
import Derived.Test.Qxb6003731aTb
import Derived.Test.Qxb6003731aPlain2
namespace Go.Proofs.Qxb6003731a
open Go.RowKit

theorem grown_trans {a b c : World} (h : Grown a b) (g : Grown b c) : Grown a c :=
  ⟨World.keptBut_trans h.1 g.1, fun x => (g.2.1 x).trans (h.2.1 x), Nat.le_trans h.2.2 g.2.2⟩

def beCells (x : Nat) : Array Value :=
  #[.int .u8 (beF x 0 : Nat), .int .u8 (beF x 1 : Nat), .int .u8 (beF x 2 : Nat), .int .u8 (beF x 3 : Nat), .int .u8 (beF x 4 : Nat), .int .u8 (beF x 5 : Nat), .int .u8 (beF x 6 : Nat), .int .u8 (beF x 7 : Nat)]

theorem be_has (x : Nat) (w : World) : HasBytes (w.alloc (.cells (beCells x) 5)) (some ⟨w.heap.size, 0, none⟩) 8 (beF x) := by
  intro j hj
  refine ⟨Nat.mod_lt _ (by decide), w.heap.size, 0, rfl, ?_⟩
  match j, hj with
  | 0, _ => simp [beCells]
  | 1, _ => simp [beCells]
  | 2, _ => simp [beCells]
  | 3, _ => simp [beCells]
  | 4, _ => simp [beCells]
  | 5, _ => simp [beCells]
  | 6, _ => simp [beCells]
  | 7, _ => simp [beCells]

theorem be_arr (x : Nat) (hx : x ≤ 18446744073709551615) : #[Value.int IntKind.u8 (↑x / 256 / 256 / 256 / 256 / 256 / 256 / 256),
            Value.int IntKind.u8 (↑x / 256 / 256 / 256 / 256 / 256 / 256 % 256),
            Value.int IntKind.u8 (↑x / 256 / 256 / 256 / 256 / 256 % 256),
            Value.int IntKind.u8 (↑x / 256 / 256 / 256 / 256 % 256), Value.int IntKind.u8 (↑x / 256 / 256 / 256 % 256),
            Value.int IntKind.u8 (↑x / 256 / 256 % 256), Value.int IntKind.u8 (↑x / 256 % 256),
            Value.int IntKind.u8 (↑x % 256)] = beCells x := by
  simp only [beCells, beF, Nat.reduceSub, Nat.reducePow, Array.mk.injEq, List.cons.injEq, Value.int.injEq, true_and, and_true]
  omega

set_option maxHeartbeats 1000000 in
theorem be_any (x : Nat) (hx : x ≤ 18446744073709551615) (w : World) :
    Calls Try.prog 17 #[.int .u64 x] w fun e w' => e = .returned (.slice (some ⟨w.heap.size, 0, none⟩) 8 8) ∧ HasBytes w' (some ⟨w.heap.size, 0, none⟩) 8 (beF x) ∧ Grown w w' := by
  have hmk : ∀ w, (Instr.makeSlice 22 (.int .i64 8) (.int .i64 8)).run Try.prog w = .ok (.slice (some ⟨w.heap.size, 0, none⟩) 8 8) (w.alloc (.cells #[.int .u8 0, .int .u8 0, .int .u8 0, .int .u8 0, .int .u8 0, .int .u8 0, .int .u8 0, .int .u8 0] 5)) := fun _ => by kernel_rfl
  have HX : Hid (#[Value.int IntKind.u8 (↑x / 256 / 256 / 256 / 256 / 256 / 256 / 256),
            Value.int IntKind.u8 (↑x / 256 / 256 / 256 / 256 / 256 / 256 % 256),
            Value.int IntKind.u8 (↑x / 256 / 256 / 256 / 256 / 256 % 256),
            Value.int IntKind.u8 (↑x / 256 / 256 / 256 / 256 % 256), Value.int IntKind.u8 (↑x / 256 / 256 / 256 % 256),
            Value.int IntKind.u8 (↑x / 256 / 256 % 256), Value.int IntKind.u8 (↑x / 256 % 256),
            Value.int IntKind.u8 (↑x % 256)] = beCells x) := be_arr x hx
  go_enter Try.func17, Try.ntmps17
  go_wp2
  refine wp_loop_rounds 9 ?_
  rw [rounds_succ]; go_wp2
  rw [rounds_succ]; go_wp2
  rw [rounds_succ]; go_wp2
  rw [rounds_succ]; go_wp2
  rw [rounds_succ]; go_wp2
  rw [rounds_succ]; go_wp2
  rw [rounds_succ]; go_wp2
  rw [rounds_succ]; go_wp2
  rw [rounds_succ]; go_wp2
  go_ret
  rw [HX.out]
  exact ⟨rfl, be_has x w, (Grown.refl _).alloc _ _⟩
end Go.Proofs.Qxb6003731a
