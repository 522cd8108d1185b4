/-
  An append of nothing.
-/
import Derived.Test.YtaoonpncnahhgaaDoorD8
import Derived.Test.YtaoonpncnahhgaaDoorEb
namespace Go.Proofs.YtaoonpncnahhgaaDoor
open Go.RowKit

theorem wpList_append_zero {ops : Array Oper} {rest : List Oper} {o : Oper} {a : Act} {Q : Exit → Act → World → Prop} {w : World} {i : TypeInfo} (hgd : o.guard = none) (s x : Operand)
    (ho : o.op = .call { callee := .builtin .append, args := #[s, x], argTypes := #[27, 27] }) (hi : Tryd.prog.info? 5 = some i)
    (va : Option Addr) (vn vc : Nat) (hv : vn ≤ vc) (hn : va = none → vn = 0 ∧ vc = 0) (b : Option Addr) (c : Nat) (hs : a.eval s = .slice va vn vc) (hx : a.eval x = .slice b 0 c)
    (h : wpList Tryd.prog ops Q rest (a.put o.dst (.slice va vn vc)) w) : wpList Tryd.prog ops Q (o :: rest) a w := by
  refine wpList_plain hgd fun K hK => ?_
  have hrun := run_append_zero (P := Tryd.prog) w 27 o.type 5 i Tryd.underlying27 hi va vn vc hv hn b c
  unfold Oper.wp
  simp [execOp, ho, resolve, invoke, builtin, hs, hx, hrun, Result.andThen]
  exact hK _ _ h

end Go.Proofs.YtaoonpncnahhgaaDoor
