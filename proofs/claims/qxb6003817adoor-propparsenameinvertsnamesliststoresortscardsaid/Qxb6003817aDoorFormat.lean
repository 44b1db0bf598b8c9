/-
  strconv.FormatUint at base 10, by its contract (after the kit's FormatInt).
-/
import Derived.Test.Qxb6003817aDoorShelf
import Derived.Test.Qxb6003817aDoorPlain
import Derived.Lib.ItoaMem
import Derived.Lib.ItoaLen
import Derived.Lib.Walk
import Derived.WalkKit
import Derived.BigCall
import Derived.BigGuard
namespace Go.Proofs.Qxb6003817aDoor
open Go.Shelf Go.RowKit Go.Sort Go.Lib

/-- What of the library's variables is asked. -/
def Glob (w : World) : Prop :=
  TabIs Tryd.prog w powName .u64 pow10Tab ∧ (∃ te pe, w.cell? ⟨0, 0, none⟩ = some (.iface te pe)) ∧ ∃ te pe, w.cell? ⟨1, 0, none⟩ = some (.iface te pe)

theorem tab_kept {w w' : World} {name : String} {k : IntKind} {zs : List Int} (h : TabIs Tryd.prog w name k zs) (hb : Below w.heap.size w w') : TabIs Tryd.prog w' name k zs := by
  unfold TabIs World.var? at *
  cases hg : Tryd.prog.globalNamed name with
  | none => simp [hg] at h
  | some g =>
    simp only [hg, Option.bind_some] at h ⊢
    have hlt : g < w.heap.size := by
      rcases Nat.lt_or_ge g w.heap.size with h' | h'
      · exact h'
      · rw [Array.getElem?_eq_none h'] at h; simp at h
    rw [hb.block g hlt]
    exact h

theorem iface_kept {w w' : World} {b : Nat} (h : ∃ te pe, w.cell? ⟨b, 0, none⟩ = some (.iface te pe)) (hb : Below w.heap.size w w') : ∃ te pe, w'.cell? ⟨b, 0, none⟩ = some (.iface te pe) := by
  obtain ⟨te, pe, h⟩ := h
  exact ⟨te, pe, (hb.cell (show (⟨b, 0, none⟩ : Addr).block < w.heap.size from Lib.lt_of_cell h)).trans h⟩

theorem Glob.kept {w w' : World} (h : Glob w) (hb : Below w.heap.size w w') : Glob w' := ⟨tab_kept h.1 hb, iface_kept h.2.1 hb, iface_kept h.2.2 hb⟩

theorem zero_row (w : World) (T : TypeId) (nd : Nat) (hs : nd ≤ 24) : Holds (fun (b : UInt8) => Value.int .u8 (b.toNat : Int)) (w.alloc (.cells zeros24 T)) w.heap.size 0 (Array.replicate nd (0 : UInt8)) := fun j hj => by
  have hj' : j < nd := by simpa using hj
  refine ⟨?_, World.frozen?_alloc_new _ _ _ _⟩
  rw [World.cell?_alloc_new, zeros24_at _ (by omega), getElem!_pos _ j hj]
  simp

theorem put_below (w : World) (o : Obj) (dk : Array UInt8) (k : Nat) : Below w.heap.size w ((putRow (fun (b : UInt8) => Value.int .u8 (b.toNat : Int)) (w.alloc o) w.heap.size 0 dk).drewN k) := by
  rw [alloc_eq_grow]
  obtain ⟨os', _, e⟩ := putRow_grow_new (fun (b : UInt8) => Value.int .u8 (b.toNat : Int)) w #[o] w.heap.size 0 dk (Nat.le_refl _)
  rw [e]
  exact ⟨rfl, rfl, rfl, by show w.heap.size ≤ (grow w os').heap.size; rw [size_grow]; omega, fun i hi => heap_grow_old w os' hi⟩

theorem format_small (u : Nat) (hu : u < 100) (w : World) :
    Calls Tryd.prog 19 #[.int .u64 u, .int .i64 10] w fun e w' => e = .returned (.string ⟨(decDigits u).toArray⟩) ∧ w' = w := by
  have huI : (u : Int) < 100 := by omega
  go_enter Tryd.func19, Tryd.ntmps19
  go_wp2_with (go_at_call 27; refine (Tryd.internal_strconv_small u hu _).mono ?_; rintro e w' ⟨rfl, rfl⟩)
  go_ret
  exact ⟨rfl, rfl⟩

set_option maxHeartbeats 6400000 in
set_option maxRecDepth 100000 in
theorem format_big (u : Nat) (hu : 100 ≤ u) (hu64 : u < 18446744073709551616) (w : World) (htab : TabIs Tryd.prog w powName .u64 pow10Tab) :
    Calls Tryd.prog 19 #[.int .u64 u, .int .i64 10] w fun e w' => e = .returned (.string ⟨(decDigits u).toArray⟩) ∧ Below w.heap.size w w' := by
  have huI : ¬ (u : Int) < 100 := by omega
  have hu1 : 1 ≤ u := by omega
  have hnd20 : nDigits u ≤ 20 := nDigits_le20 u hu64
  have HT := Lib.hid htab
  clear htab
  have hal : Tryd.prog.arrayLen 46 = 24 := by simp [Program.arrayLen, Tryd.underlying46]
  have hsl : ∀ W, (Instr.sliceAt 46 (.pointer (some ⟨w.heap.size, 0, none⟩)) none (some (.int .i64 (nDigits u : Int))) none).run Tryd.prog W = .ok (.slice (some ⟨w.heap.size, 0, none⟩) (nDigits u) 24) W := fun W => by
    rw [run_sliceAt_array_h W 46 ⟨w.heap.size, 0, none⟩ (by simp [Program.arrayLen, Program.elem, Tryd.underlying46]) .i64 (nDigits u : Int) (by omega) (by rw [hal]; omega)]
    go_simp
  have hH0 := zero_row w 46 (nDigits u) (by omega)
  have hfmt := Tryd.internal_strconv_formatBase10 w.heap.size 0 24 u (Array.replicate (nDigits u) 0) (w.alloc (.cells zeros24 46)) hH0 (by rw [Array.size_replicate]; exact lt_pow_nDigits u) hu64 (by rw [Array.size_replicate]; omega)
  rw [Array.size_replicate] at hfmt
  have HH0 := Lib.hid hH0
  clear hH0 hal
  go_enter Tryd.func19, Tryd.ntmps19
  go_wp2_with (first
    | (go_at_call 28; refine (Tryd.internal_strconv_numDigits u hu1 hu64 _ (tabIs_alloc HT.out _)).mono ?_; rintro e w' ⟨rfl, rfl⟩))
  go_at_call 29
  refine hfmt.mono ?_
  rintro e w' ⟨rfl, k, v', dk, rfl, hF⟩
  have hcv : (convert 41 9 (.slice (some ⟨w.heap.size, 0, none⟩) (nDigits u) 24)).run Tryd.prog ((putRow (fun (b : UInt8) => Value.int .u8 (b.toNat : Int)) (w.alloc (.cells zeros24 46)) w.heap.size 0 dk).drewN k) = .ok (.string ⟨(decDigits u).toArray⟩) ((putRow (fun (b : UInt8) => Value.int .u8 (b.toNat : Int)) (w.alloc (.cells zeros24 46)) w.heap.size 0 dk).drewN k) := by
    have h := run_convert_bytes_back (P := Tryd.prog) ((putRow (fun (b : UInt8) => Value.int .u8 (b.toNat : Int)) (w.alloc (.cells zeros24 46)) w.heap.size 0 dk).drewN k) 41 9 5 ⟨w.heap.size, 0, none⟩ 24 (decDigits u) Tryd.underlying41 Tryd.underlying5 Tryd.underlying9 (fun j hj => by
      rw [row_is_numeral hF j hj, add_plain, World.cell?_drewN]
      exact cell?_putRow (fun (b : UInt8) => Value.int .u8 (b.toNat : Int)) _ w.heap.size 0 _ dk HH0.out (by rw [hF.size, Array.size_replicate]) j (by rw [hF.size]; rw [decDigits_length] at hj; exact hj))
    rw [decDigits_length] at h
    exact h
  go_wp2
  go_ret
  exact ⟨rfl, put_below _ _ _ _⟩

/-- strconv.FormatUint at base 10. -/
theorem format_any (u : Nat) (hu64 : u < 18446744073709551616) (w : World) (h : Glob w) :
    Calls Tryd.prog 15 #[.int .u64 u, .int .i64 10] w fun e w' => e = .returned (.string ⟨(decDigits u).toArray⟩) ∧ Below w.heap.size w w' := by
  have hI : Calls Tryd.prog 19 #[.int .u64 u, .int .i64 10] w fun e w' => e = .returned (.string ⟨(decDigits u).toArray⟩) ∧ Below w.heap.size w w' := by
    by_cases hu : u < 100
    · refine (format_small u hu w).mono ?_
      rintro e w' ⟨rfl, rfl⟩
      exact ⟨rfl, Below.refl _ _⟩
    · exact format_big u (by omega) hu64 w h.1
  clear h
  go_enter Tryd.func15, Tryd.ntmps15
  go_wp2_with (go_at_call 19; refine hI.mono ?_; rintro e w' ⟨rfl, hb⟩)
  go_ret
  exact ⟨rfl, hb⟩
end Go.Proofs.Qxb6003817aDoor
