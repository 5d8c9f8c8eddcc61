/-
  'len(m)' at the operation.
-/
import Derived.Test.Qxb6617267aGrp
namespace Go.Proofs.Qxb6617267a
open Go.RowKit
open Go.Maps (Keyed)

/-- 'len(m)' at the operation. -/
theorem wpList_vlen {P : Program} (w : World) {ops : Array Oper} {rest : List Oper} {o : Oper} {a : Act} {Q : Exit → Act → World → Prop} (hg : o.guard = none) (m : Operand) (t : TypeId) (hop : o.op = Op.call { callee := Callee.builtin Builtin.len, args := #[m], argTypes := #[t] })
    {k e : TypeId} (ht : P.underlying t = some (.map k e)) {b n : Nat} {f : Lit → Option Value} (hm : a.eval m = .map (some b)) (h : VMap P k w b n f) (hK : wpList P ops Q rest (a.put o.dst (.int .i64 n)) w) : wpList P ops Q (o :: rest) a w := by
  refine wpList_plain hg fun K' hK' => ?_
  unfold Oper.wp
  simp [execOp, hop, resolve, invoke, builtin, hm, h.len ht o.type, Result.andThen]
  exact hK' _ _ hK

end Go.Proofs.Qxb6617267a
