import Derived.Test.Qxb6605469aJoin
import Derived.Deep.RegionLawGrows
set_option linter.unusedSimpArgs false
set_option linter.unusedVariables false
namespace Go.Proofs.Qxb6605469a
open Go.ChangeShapes Go.WideShapes Go.ChangeAt Go.RowKit

/-- append, its run being known, as one step of a region that draws its order. -/
theorem step_append_run {P : Program} {ops : Array Oper} {o : Oper} {a : Act} {w : World} {K : Act → World → Prop} {Q : Exit → Act → World → Prop} {E : Prop}
    (hg : o.guard = none) (s x : Operand) (t : TypeId) (hop : o.op = Op.call { callee := Callee.builtin Builtin.append, args := #[s, x], argTypes := #[t, t] })
    (v xv v' : Value) (w' : World) (hs : a.eval s = v) (hx : a.eval x = xv) (hrun : (Builtin.append_ #[t, t] o.type #[v, xv]).run P w = .ok v' w') (hK : K (a.put o.dst v') w') :
    if Region.wanted o (yielded ops a.tmps) = true then Oper.wp P o a w K Q else E := by
  have hw : Region.wanted o (yielded ops a.tmps) = true := by simp [Region.wanted, hg]
  rw [if_pos hw]
  unfold Oper.wp
  simp [execOp, hop, resolve, invoke, builtin, hs, hx, hrun, Result.andThen]
  exact hK
/-- a store into a map, its run being known. -/
theorem step_update_run {P : Program} {ops : Array Oper} {o : Oper} {a : Act} {w : World} {K : Act → World → Prop} {Q : Exit → Act → World → Prop} {E : Prop}
    (hg : o.guard = none) (m k x : Operand) (t : TypeId) (hop : o.op = Op.mapUpdate t m k x)
    (mv kv xv : Value) (w' : World) (hm : a.eval m = mv) (hk : a.eval k = kv) (hx : a.eval x = xv) (hrun : (Instr.mapUpdate t mv kv xv).run P w = .ok () w') (hK : K (a.put o.dst undef) w') :
    if Region.wanted o (yielded ops a.tmps) = true then Oper.wp P o a w K Q else E := by
  have hw : Region.wanted o (yielded ops a.tmps) = true := by simp [Region.wanted, hg]
  rw [if_pos hw]
  unfold Oper.wp
  simp [execOp, hop, hm, hk, hx, hrun, Result.andThen]
  exact hK
end Go.Proofs.Qxb6605469a
