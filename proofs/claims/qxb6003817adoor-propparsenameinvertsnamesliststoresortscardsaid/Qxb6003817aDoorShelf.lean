/-
  THE SHELF's CONTRACTS AT THIS DUMP that this seat uses, in plain words (out of the kit's lay-shelf.mjs and lay-plain.mjs), and strconv.ParseUint in one sentence.
-/
import Derived.Shelf.Small.Wraps
import Derived.Shelf.Strconv.Itoa0
import Derived.Shelf.Strconv.Itoa1
import Derived.Shelf.LaysM
import Derived.Shelf.Strconv.Itoa2
import Derived.Shelf.Pu.ParseUintPublic10
import Derived.Test.Qxb6003817aDoorRows
namespace Go.Proofs
open Go.Shelf

/-- The table's name, as the row spells it. -/
def Qxb6003817aDoor.powName : String := Qxb6003817aDoor.Rows.propParseNameInvertsNamesListStoreSortsRow.named.headD ""

def Tryd.lays103_ren : Go.Shelf.Ren := ⟨fun | 103 => 13 | 210 => 16 | 206 => 20 | n => n, fun | 9 => 9 | 4 => 4 | 24 => 30 | 3 => 3 | n => n, fun | n => n⟩
theorem Tryd.lays103 : Go.Proofs.Lays.n103 Tryd.prog Tryd.lays103_ren := {
  mixed := by kernel_rfl
  f103 := Tryd.func13.trans (congrArg some (by kernel_rfl))
  f206 := Tryd.func20.trans (congrArg some (by kernel_rfl))
  f210 := Tryd.func16.trans (congrArg some (by kernel_rfl))
  t3 := Tryd.underlying3
  a3 := Tryd.isAgg3
  z3 := Tryd.sizeOf3
  v3 := Tryd.zeroValue3
  t4 := Tryd.underlying4
  a4 := Tryd.isAgg4
  z4 := Tryd.sizeOf4
  v4 := Tryd.zeroValue4
  t9 := Tryd.underlying9
  a9 := Tryd.isAgg9
  z9 := Tryd.sizeOf9
  v9 := Tryd.zeroValue9
  t24 := Tryd.underlying30
  a24 := Tryd.isAgg30
  z24 := Tryd.sizeOf30
  v24 := Tryd.zeroValue30 }
open Go.RowKit in
theorem Tryd.strings_CutPrefix (s p : ByteArray) (w : World) :
    Calls Tryd.prog 13 #[.string s, .string p] w fun e w' => e = .returned (.tuple #[.string ⟨(Lib.trimPrefix s.data.toList p.data.toList).toArray⟩, .bool (Lib.hasPrefix s.data.toList p.data.toList)]) ∧ w' = w := Any.strings_CutPrefix Tryd.lays103 s p w
def Tryd.lays283_ren : Go.Shelf.Ren := ⟨fun | 283 => 27 | n => n, fun | 3 => 3 | 9 => 9 | 4 => 4 | n => n, fun | n => n⟩
theorem Tryd.lays283 : Go.Proofs.Lays.n283 Tryd.prog Tryd.lays283_ren := {
  mixed := by kernel_rfl
  f283 := Tryd.func27.trans (congrArg some (by kernel_rfl))
  t3 := Tryd.underlying3
  a3 := Tryd.isAgg3
  z3 := Tryd.sizeOf3
  v3 := Tryd.zeroValue3
  t4 := Tryd.underlying4
  a4 := Tryd.isAgg4
  z4 := Tryd.sizeOf4
  v4 := Tryd.zeroValue4
  t9 := Tryd.underlying9
  a9 := Tryd.isAgg9
  z9 := Tryd.sizeOf9
  v9 := Tryd.zeroValue9 }
open Go.Lib in
theorem Tryd.internal_strconv_small (i : Nat) (h : i < 100) (w : World) :
    Calls Tryd.prog 27 #[.int .i64 i] w fun e w' => e = .returned (.string ⟨(Lib.decDigits i).toArray⟩) ∧ w' = w := Any.internal_strconv_small Tryd.lays283 i h w
def Tryd.laysM284_ren : Go.Shelf.Ren := ⟨fun | 284 => 28 | 129 => 35 | 317 => 34 | 318 => 36 | n => n, fun | 53 => 22 | 3 => 3 | 212 => 57 | 0 => 0 | 4 => 4 | 46 => 40 | 5 => 5 | 9 => 9 | n => n, fun | 17 => 2 | n => n⟩
theorem Tryd.laysM284 : Go.Proofs.LaysM.n284 Tryd.prog Tryd.laysM284_ren := {
  mixed := by kernel_rfl
  f129 := Tryd.func35.trans (congrArg some (by kernel_rfl))
  f284 := Tryd.func28.trans (congrArg some (by kernel_rfl))
  f317 := Tryd.func34.trans (congrArg some (by kernel_rfl))
  f318 := Tryd.func36.trans (congrArg some (by kernel_rfl))
  t0 := Tryd.underlying0
  a0 := Tryd.isAgg0
  z0 := Tryd.sizeOf0
  v0 := Tryd.zeroValue0
  t3 := Tryd.underlying3
  a3 := Tryd.isAgg3
  z3 := Tryd.sizeOf3
  v3 := Tryd.zeroValue3
  t4 := Tryd.underlying4
  a4 := Tryd.isAgg4
  z4 := Tryd.sizeOf4
  v4 := Tryd.zeroValue4
  t5 := Tryd.underlying5
  a5 := Tryd.isAgg5
  z5 := Tryd.sizeOf5
  v5 := Tryd.zeroValue5
  t9 := Tryd.underlying9
  a9 := Tryd.isAgg9
  z9 := Tryd.sizeOf9
  v9 := Tryd.zeroValue9
  t46 := Tryd.underlying40
  a46 := Tryd.isAgg40
  z46 := Tryd.sizeOf40
  v46 := Tryd.zeroValue40
  t53 := Tryd.underlying22
  a53 := Tryd.isAgg22
  z53 := Tryd.sizeOf22
  v53 := Tryd.zeroValue22
  t212 := Tryd.underlying57
  a212 := Tryd.isAgg57
  z212 := Tryd.sizeOf57
  v212 := Tryd.zeroValue57
  g17 := by kernel_rfl
  i0 := by kernel_rfl
  i3 := by kernel_rfl
  i4 := by kernel_rfl
  i5 := by kernel_rfl
  i9 := by kernel_rfl
  i46 := by kernel_rfl
  i53 := by kernel_rfl
  i212 := by kernel_rfl
  m17 := by kernel_rfl }
open Go.Lib in
theorem Tryd.internal_strconv_numDigits (u : Nat) (h1 : 1 ≤ u) (h2 : u < 18446744073709551616) (w : World) (htab : Lib.TabIs Tryd.prog w Qxb6003817aDoor.powName .u64 Lib.pow10Tab) :
    Calls Tryd.prog 28 #[.int .u64 u] w fun e w' => e = .returned (.int .i64 (Lib.nDigits u)) ∧ w' = w := Any.internal_strconv_numDigits Tryd.laysM284 u h1 h2 w htab
def Tryd.lays285_ren : Go.Shelf.Ren := ⟨fun | 285 => 29 | n => n, fun | 37 => 41 | 53 => 22 | 3 => 3 | 4 => 4 | 51 => 58 | 9 => 9 | 5 => 5 | 0 => 0 | n => n, fun | n => n⟩
theorem Tryd.lays285 : Go.Proofs.Lays.n285 Tryd.prog Tryd.lays285_ren := {
  mixed := by kernel_rfl
  f285 := Tryd.func29.trans (congrArg some (by kernel_rfl))
  t0 := Tryd.underlying0
  a0 := Tryd.isAgg0
  z0 := Tryd.sizeOf0
  v0 := Tryd.zeroValue0
  t3 := Tryd.underlying3
  a3 := Tryd.isAgg3
  z3 := Tryd.sizeOf3
  v3 := Tryd.zeroValue3
  t4 := Tryd.underlying4
  a4 := Tryd.isAgg4
  z4 := Tryd.sizeOf4
  v4 := Tryd.zeroValue4
  t5 := Tryd.underlying5
  a5 := Tryd.isAgg5
  z5 := Tryd.sizeOf5
  v5 := Tryd.zeroValue5
  t9 := Tryd.underlying9
  a9 := Tryd.isAgg9
  z9 := Tryd.sizeOf9
  v9 := Tryd.zeroValue9
  t37 := Tryd.underlying41
  a37 := Tryd.isAgg41
  z37 := Tryd.sizeOf41
  v37 := Tryd.zeroValue41
  t51 := Tryd.underlying58
  a51 := Tryd.isAgg58
  z51 := Tryd.sizeOf58
  v51 := Tryd.zeroValue58
  t53 := Tryd.underlying22
  a53 := Tryd.isAgg22
  z53 := Tryd.sizeOf22
  v53 := Tryd.zeroValue22 }
open Go.RowKit Go.Sort Go.Lib in
theorem Tryd.internal_strconv_formatBase10 (blk off cap : Nat) (u : Nat) (d : Array UInt8) (w : World) (hH : Holds (fun (b : UInt8) => Value.int .u8 (b.toNat : Int)) w blk off d) (hu : u < 10 ^ d.size) (hu64 : u < 18446744073709551616) (hsz : d.size < 4611686018427387904) :
    Calls Tryd.prog 29 #[.slice (some ⟨blk, off, none⟩) d.size cap, .int .u64 u] w fun e w' =>
      e = .returned (.tuple #[]) ∧ ∃ (n v' : Nat) (dk : Array UInt8), w' = (putRow (fun (b : UInt8) => Value.int .u8 (b.toNat : Int)) w blk off dk).drewN n ∧ FmtInv d.size u 0 v' dk := Any.internal_strconv_formatBase10 Tryd.lays285 blk off cap u d w hH hu hu64 hsz
def Tryd.laysPu14_ren : Go.Shelf.Ren := ⟨fun | 14 => 14 | 16 => 17 | 17 => 18 | 19 => 21 | 20 => 22 | 21 => 23 | 22 => 24 | 23 => 25 | 24 => 26 | 25 => 31 | 27 => 33 | 26 => 32 | 28 => 39 | 29 => 42 | 30 => 27 | 31 => 28 | 32 => 29 | 33 => 30 | 35 => 35 | 34 => 34 | 36 => 36 | 37 => 37 | 38 => 38 | 39 => 40 | 40 => 41 | n => n, fun | 9 => 9 | 3 => 3 | 22 => 22 | 24 => 33 | 25 => 34 | 4 => 4 | 34 => 38 | 5 => 5 | 36 => 40 | 37 => 41 | 0 => 0 | 39 => 42 | 21 => 21 | 44 => 53 | 47 => 62 | 50 => 65 | 48 => 63 | 2 => 2 | 52 => 46 | 55 => 49 | 59 => 57 | 60 => 58 | 20 => 20 | 61 => 59 | 65 => 68 | 66 => 69 | 67 => 72 | n => n, fun | 0 => 0 | 1 => 1 | 2 => 2 | 3 => 3 | 4 => 4 | n => n⟩
theorem Tryd.laysPu14 : Go.Proofs.LaysPu.n14 Tryd.prog Tryd.laysPu14_ren := {
  mixed := by kernel_rfl
  f14 := Tryd.func14.trans (congrArg some (by kernel_rfl))
  f16 := Tryd.func17.trans (congrArg some (by kernel_rfl))
  f17 := Tryd.func18.trans (congrArg some (by kernel_rfl))
  f19 := Tryd.func21.trans (congrArg some (by kernel_rfl))
  f20 := Tryd.func22.trans (congrArg some (by kernel_rfl))
  f21 := Tryd.func23.trans (congrArg some (by kernel_rfl))
  f22 := Tryd.func24.trans (congrArg some (by kernel_rfl))
  f23 := Tryd.func25.trans (congrArg some (by kernel_rfl))
  f24 := Tryd.func26.trans (congrArg some (by kernel_rfl))
  f25 := Tryd.func31.trans (congrArg some (by kernel_rfl))
  f26 := Tryd.func32.trans (congrArg some (by kernel_rfl))
  f27 := Tryd.func33.trans (congrArg some (by kernel_rfl))
  f28 := Tryd.func39.trans (congrArg some (by kernel_rfl))
  f29 := Tryd.func42.trans (congrArg some (by kernel_rfl))
  f30 := Tryd.func27.trans (congrArg some (by kernel_rfl))
  f31 := Tryd.func28.trans (congrArg some (by kernel_rfl))
  f32 := Tryd.func29.trans (congrArg some (by kernel_rfl))
  f33 := Tryd.func30.trans (congrArg some (by kernel_rfl))
  f34 := Tryd.func34.trans (congrArg some (by kernel_rfl))
  f35 := Tryd.func35.trans (congrArg some (by kernel_rfl))
  f36 := Tryd.func36.trans (congrArg some (by kernel_rfl))
  f37 := Tryd.func37.trans (congrArg some (by kernel_rfl))
  f38 := Tryd.func38.trans (congrArg some (by kernel_rfl))
  f39 := Tryd.func40.trans (congrArg some (by kernel_rfl))
  f40 := Tryd.func41.trans (congrArg some (by kernel_rfl))
  t0 := Tryd.underlying0
  a0 := Tryd.isAgg0
  z0 := Tryd.sizeOf0
  v0 := Tryd.zeroValue0
  i0 := by kernel_rfl
  t2 := Tryd.underlying2
  a2 := Tryd.isAgg2
  z2 := Tryd.sizeOf2
  v2 := Tryd.zeroValue2
  i2 := by kernel_rfl
  t3 := Tryd.underlying3
  a3 := Tryd.isAgg3
  z3 := Tryd.sizeOf3
  v3 := Tryd.zeroValue3
  i3 := by kernel_rfl
  t4 := Tryd.underlying4
  a4 := Tryd.isAgg4
  z4 := Tryd.sizeOf4
  v4 := Tryd.zeroValue4
  i4 := by kernel_rfl
  t5 := Tryd.underlying5
  a5 := Tryd.isAgg5
  z5 := Tryd.sizeOf5
  v5 := Tryd.zeroValue5
  i5 := by kernel_rfl
  t9 := Tryd.underlying9
  a9 := Tryd.isAgg9
  z9 := Tryd.sizeOf9
  v9 := Tryd.zeroValue9
  i9 := by kernel_rfl
  t20 := Tryd.underlying20
  a20 := Tryd.isAgg20
  z20 := Tryd.sizeOf20
  v20 := Tryd.zeroValue20
  i20 := by kernel_rfl
  t21 := Tryd.underlying21
  a21 := Tryd.isAgg21
  z21 := Tryd.sizeOf21
  v21 := Tryd.zeroValue21
  i21 := by kernel_rfl
  t22 := Tryd.underlying22
  a22 := Tryd.isAgg22
  z22 := Tryd.sizeOf22
  v22 := Tryd.zeroValue22
  i22 := by kernel_rfl
  t24 := Tryd.underlying33
  a24 := Tryd.isAgg33
  z24 := Tryd.sizeOf33
  v24 := Tryd.zeroValue33
  i24 := by kernel_rfl
  t25 := Tryd.underlying34
  a25 := Tryd.isAgg34
  z25 := Tryd.sizeOf34
  v25 := Tryd.zeroValue34
  i25 := by kernel_rfl
  t34 := Tryd.underlying38
  a34 := Tryd.isAgg38
  z34 := Tryd.sizeOf38
  v34 := Tryd.zeroValue38
  i34 := by kernel_rfl
  c34 := by kernel_rfl
  t36 := Tryd.underlying40
  a36 := Tryd.isAgg40
  z36 := Tryd.sizeOf40
  v36 := Tryd.zeroValue40
  i36 := by kernel_rfl
  t37 := Tryd.underlying41
  a37 := Tryd.isAgg41
  z37 := Tryd.sizeOf41
  v37 := Tryd.zeroValue41
  i37 := by kernel_rfl
  t39 := Tryd.underlying42
  a39 := Tryd.isAgg42
  z39 := Tryd.sizeOf42
  v39 := Tryd.zeroValue42
  i39 := by kernel_rfl
  t44 := Tryd.underlying53
  a44 := Tryd.isAgg53
  z44 := Tryd.sizeOf53
  v44 := Tryd.zeroValue53
  i44 := by kernel_rfl
  t47 := Tryd.underlying62
  a47 := Tryd.isAgg62
  z47 := Tryd.sizeOf62
  v47 := Tryd.zeroValue62
  i47 := by kernel_rfl
  t48 := Tryd.underlying63
  a48 := Tryd.isAgg63
  z48 := Tryd.sizeOf63
  v48 := Tryd.zeroValue63
  i48 := by kernel_rfl
  t50 := Tryd.underlying65
  a50 := Tryd.isAgg65
  z50 := Tryd.sizeOf65
  v50 := Tryd.zeroValue65
  i50 := by kernel_rfl
  t52 := Tryd.underlying46
  a52 := Tryd.isAgg46
  z52 := Tryd.sizeOf46
  v52 := Tryd.zeroValue46
  i52 := by kernel_rfl
  t55 := Tryd.underlying49
  a55 := Tryd.isAgg49
  z55 := Tryd.sizeOf49
  v55 := Tryd.zeroValue49
  i55 := by kernel_rfl
  t59 := Tryd.underlying57
  a59 := Tryd.isAgg57
  z59 := Tryd.sizeOf57
  v59 := Tryd.zeroValue57
  i59 := by kernel_rfl
  t60 := Tryd.underlying58
  a60 := Tryd.isAgg58
  z60 := Tryd.sizeOf58
  v60 := Tryd.zeroValue58
  i60 := by kernel_rfl
  t61 := Tryd.underlying59
  a61 := Tryd.isAgg59
  z61 := Tryd.sizeOf59
  t65 := Tryd.underlying68
  a65 := Tryd.isAgg68
  z65 := Tryd.sizeOf68
  v65 := Tryd.zeroValue68
  i65 := by kernel_rfl
  t66 := Tryd.underlying69
  a66 := Tryd.isAgg69
  z66 := Tryd.sizeOf69
  v66 := Tryd.zeroValue69
  i66 := by kernel_rfl
  t67 := Tryd.underlying72
  a67 := Tryd.isAgg72
  z67 := Tryd.sizeOf72
  v67 := Tryd.zeroValue72
  i67 := by kernel_rfl
  g0 := by kernel_rfl
  m0 := by kernel_rfl
  g1 := by kernel_rfl
  m1 := by kernel_rfl
  g2 := by kernel_rfl
  m2 := by kernel_rfl
  g3 := by kernel_rfl
  m3 := by kernel_rfl
  g4 := by kernel_rfl
  m4 := by kernel_rfl }

namespace Qxb6003817aDoor
open Go.RowKit

/-- strconv.ParseUint at base 10 and 64 bits, at every string. -/
theorem parseUint_any (s : ByteArray) (hlim : s.size ≤ 281474976710656) (w : World) (h0 : ∃ te pe, w.cell? ⟨0, 0, none⟩ = some (.iface te pe)) (h1 : ∃ te pe, w.cell? ⟨1, 0, none⟩ = some (.iface te pe)) :
    Calls Tryd.prog 14 #[.string s, .int .i64 10, .int .i64 64] w fun e w' => Below w.heap.size w w' ∧ ∃ u : Nat, u < 18446744073709551616 ∧
      ((e = .returned (.tuple #[.int .u64 u, .nilIface]) ∧ Lib.parseUintB 64 s.data.toList = .ok u) ∨ (∃ N, e = .returned (.tuple #[.int .u64 u, .iface 42 (.pointer (some ⟨N, 0, none⟩))])) ∧ ∀ v, Lib.parseUintB 64 s.data.toList ≠ .ok v) := by
  obtain ⟨te, pe, h0⟩ := h0
  obtain ⟨tf, pf, h1⟩ := h1
  cases h : Lib.parseUintB 64 s.data.toList
  · rename_i u
    refine (Any.strconv_ParseUint_10_at64_ok Tryd.laysPu14 s (by omega) u h w).mono ?_
    rintro e w' ⟨rfl, hw⟩
    refine ⟨?_, u, ?_, .inl ⟨rfl, rfl⟩⟩
    · rcases hw with rfl | rfl
      · exact Below.refl _ _
      · exact Lib.bytesWorld_below _ _ _
    · have := Lib.parseUintB_le h
      omega
  · refine (Any.strconv_ParseUint_10_at64_syntax Tryd.laysPu14 s hlim h _ w h0 (.inr ⟨te, pe, rfl⟩)).mono ?_
    rintro e w' ⟨N, rfl, _, _, hb⟩
    exact ⟨hb, 0, by omega, .inr ⟨⟨N, rfl⟩, fun v hv => by cases hv⟩⟩
  · refine (Any.strconv_ParseUint_10_at64_range Tryd.laysPu14 s hlim h _ w h1 (.inr ⟨tf, pf, rfl⟩)).mono ?_
    rintro e w' ⟨N, rfl, _, _, hb⟩
    exact ⟨hb, 18446744073709551615, by omega, .inr ⟨⟨N, rfl⟩, fun v hv => by cases hv⟩⟩
end Qxb6003817aDoor
end Go.Proofs
