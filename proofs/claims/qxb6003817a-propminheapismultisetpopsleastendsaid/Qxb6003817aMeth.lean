/-
  The method 'before' at the interface value that 'push' and 'pop' make: which function it is. (The method's name is read off the program's own text.)
-/
import Derived.Test.Qxb6003817aSmall
namespace Go.Proofs.Qxb6003817a
open Go.RowKit

def invoked (o : Oper) : Option String := match o.op with
  | .call c => match c.callee with
    | .invoke _ s => some s
    | _ => none
  | _ => none

/-- The name in the first call through an interface. -/
def firstInvoke : Code → Option String
  | .region _ ops _ => ops.toList.findSome? invoked
  | .seq a b => match firstInvoke a with
    | some c => some c
    | none => firstInvoke b
  | .block _ c => firstInvoke c
  | .scope c => firstInvoke c
  | .loop c => firstInvoke c
  | .cond _ a b => match firstInvoke a with
    | some c => some c
    | none => firstInvoke b
  | _ => none

theorem method_of (s : String) (hs : Try.f11.body.bind firstInvoke = some s) (v0 v1 v2 v3 : Value) (w : World) :
    (method 166 33 (.agg #[v0, v1, v2, v3]) s).run Try.prog w = .ok (17, .agg #[v0, v1, v2, v3]) w := by
  conv at hs => lhs; whnf
  simp only [Option.some.injEq] at hs
  subst hs
  kernel_rfl

end Go.Proofs.Qxb6003817a
