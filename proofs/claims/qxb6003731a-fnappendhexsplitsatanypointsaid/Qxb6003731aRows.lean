/-
  No cell of these rows narrows 'for every input' (looked for: loops, veiled, ifaces, maps, wideKeys, modest, calm, conditions, laid).
  DERIVED. THE GIVEN ROWS OF THIS SEAT. 4 by the template 'for every input the law returns true; each argument reads behind the call as it read before'; 0 by the template 'total and deterministic' (their statements: Qxb6003731aTotals.lean).
  GIVEN WITH THE SEED: the statements are not yours to turn. If you find one false, say at which input.
  Laid BY PROGRAM, IN A SANDBOX (cutbox-rows.mjs): the forced cells as the released guide's own fill.sh prints them over the translation a25fe5b4dd10309f… (all of the seat's roots in one cut). By AI agents, Wed Nov 11 2026. No macro, syntax, notation, axiom, sorry.
-/
import Derived.Test.Qxb6003731aChecked
import GoSem.Claim
import GoSem.ClaimJoined
import GoSem.ClaimMapViews
import Derived.JoinedTies
import Derived.KernelRfl
namespace Go.Proofs.Qxb6003731a
/- THE CELL 'sum', in the pinned program and in every row, IS THE sha256 OF THE DUMP (.gsa) THAT Qxb6003731aProg.lean LOADS. Nothing in Lean hashes anything: it is a label: what it is worth is what the hold of that sum in a sandbox is worth. -/
noncomputable def Try.pinned : Pinned := { name := "qxb6003731a", sum := "a25fe5b4dd10309fe41d47f3f1e7c14c6d9d9f6c60b073daa101c76061f53710", checked := Try.checked }
namespace Rows
def none {H : Type} : Left H := { results := [], args := [] }

/-- 'zzlaws_internal_oneline_g1.FnAppendHexDecodesBack': WHATEVER THE INPUT: true; the input reads as it did. -/
def fnAppendHexDecodesBackSpec : ChangeSpec := { name := "fnAppendHexDecodesBack", fn := fun _ => fun
  | [d1, d2] => { results := [.lit (.bool true)], args := [d1, d2] }
  | _ => none }
def fnAppendHexDecodesBackRow : OpenClaim := { program := "qxb6003731a", sum := "a25fe5b4dd10309fe41d47f3f1e7c14c6d9d9f6c60b073daa101c76061f53710", func := "example.com/originseal/originseal/zzlaws_internal_oneline_g1.FnAppendHexDecodesBack", spec := "fnAppendHexDecodesBack", apart := false }
def FnAppendHexDecodesBackSaid : Prop := fnAppendHexDecodesBackRow.holds Try.pinned (OpenSpec.ofChange fnAppendHexDecodesBackSpec)

/-- ITS FALSE NEIGHBOUR: 'it returns false'. Refute it at one input. -/
def fnAppendHexDecodesBackWrong : ChangeSpec := { name := "fnAppendHexDecodesBack", fn := fun _ => fun
  | [d1, d2] => { results := [.lit (.bool false)], args := [d1, d2] }
  | _ => none }
def FnAppendHexDecodesBackWrongFalsely : Prop := fnAppendHexDecodesBackRow.holds Try.pinned (OpenSpec.ofChange fnAppendHexDecodesBackWrong)

/-- 'zzlaws_internal_oneline_g1.FnAppendHexSplitsAtAnyPoint': WHATEVER THE INPUT: true; the input reads as it did. -/
def fnAppendHexSplitsAtAnyPointSpec : ChangeSpec := { name := "fnAppendHexSplitsAtAnyPoint", fn := fun _ => fun
  | [d1, d2, d3] => { results := [.lit (.bool true)], args := [d1, d2, d3] }
  | _ => none }
def fnAppendHexSplitsAtAnyPointRow : OpenClaim := { program := "qxb6003731a", sum := "a25fe5b4dd10309fe41d47f3f1e7c14c6d9d9f6c60b073daa101c76061f53710", func := "example.com/originseal/originseal/zzlaws_internal_oneline_g1.FnAppendHexSplitsAtAnyPoint", spec := "fnAppendHexSplitsAtAnyPoint", apart := false }
def FnAppendHexSplitsAtAnyPointSaid : Prop := fnAppendHexSplitsAtAnyPointRow.holds Try.pinned (OpenSpec.ofChange fnAppendHexSplitsAtAnyPointSpec)

/-- ITS FALSE NEIGHBOUR: 'it returns false'. Refute it at one input. -/
def fnAppendHexSplitsAtAnyPointWrong : ChangeSpec := { name := "fnAppendHexSplitsAtAnyPoint", fn := fun _ => fun
  | [d1, d2, d3] => { results := [.lit (.bool false)], args := [d1, d2, d3] }
  | _ => none }
def FnAppendHexSplitsAtAnyPointWrongFalsely : Prop := fnAppendHexSplitsAtAnyPointRow.holds Try.pinned (OpenSpec.ofChange fnAppendHexSplitsAtAnyPointWrong)

/-- 'zzlaws_root_g1.FnTrailingBitsDuality': WHATEVER THE INPUT: true; the input reads as it did. -/
def fnTrailingBitsDualitySpec : ChangeSpec := { name := "fnTrailingBitsDuality", fn := fun _ => fun
  | [d1, d2] => { results := [.lit (.bool true)], args := [d1, d2] }
  | _ => none }
def fnTrailingBitsDualityRow : OpenClaim := { program := "qxb6003731a", sum := "a25fe5b4dd10309fe41d47f3f1e7c14c6d9d9f6c60b073daa101c76061f53710", func := "example.com/originseal/originseal/zzlaws_root_g1.FnTrailingBitsDuality", spec := "fnTrailingBitsDuality", apart := false }
def FnTrailingBitsDualitySaid : Prop := fnTrailingBitsDualityRow.holds Try.pinned (OpenSpec.ofChange fnTrailingBitsDualitySpec)

/-- ITS FALSE NEIGHBOUR: 'it returns false'. Refute it at one input. -/
def fnTrailingBitsDualityWrong : ChangeSpec := { name := "fnTrailingBitsDuality", fn := fun _ => fun
  | [d1, d2] => { results := [.lit (.bool false)], args := [d1, d2] }
  | _ => none }
def FnTrailingBitsDualityWrongFalsely : Prop := fnTrailingBitsDualityRow.holds Try.pinned (OpenSpec.ofChange fnTrailingBitsDualityWrong)

/-- 'zzlaws_root_g1.FnTrailingBitsArithmetic': WHATEVER THE INPUT: true; the input reads as it did. -/
def fnTrailingBitsArithmeticSpec : ChangeSpec := { name := "fnTrailingBitsArithmetic", fn := fun _ => fun
  | [d] => { results := [.lit (.bool true)], args := [d] }
  | _ => none }
def fnTrailingBitsArithmeticRow : OpenClaim := { program := "qxb6003731a", sum := "a25fe5b4dd10309fe41d47f3f1e7c14c6d9d9f6c60b073daa101c76061f53710", func := "example.com/originseal/originseal/zzlaws_root_g1.FnTrailingBitsArithmetic", spec := "fnTrailingBitsArithmetic", apart := false }
def FnTrailingBitsArithmeticSaid : Prop := fnTrailingBitsArithmeticRow.holds Try.pinned (OpenSpec.ofChange fnTrailingBitsArithmeticSpec)

/-- ITS FALSE NEIGHBOUR: 'it returns false'. Refute it at one input. -/
def fnTrailingBitsArithmeticWrong : ChangeSpec := { name := "fnTrailingBitsArithmetic", fn := fun _ => fun
  | [d] => { results := [.lit (.bool false)], args := [d] }
  | _ => none }
def FnTrailingBitsArithmeticWrongFalsely : Prop := fnTrailingBitsArithmeticRow.holds Try.pinned (OpenSpec.ofChange fnTrailingBitsArithmeticWrong)

end Rows
end Go.Proofs.Qxb6003731a
