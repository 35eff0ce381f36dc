import Derived.Test.Qxb6605469aEnc
import Derived.Deep.RegionLawGrows
set_option linter.unusedSimpArgs false
set_option linter.unusedVariables false
namespace Go.Proofs.Qxb6605469a
open Go.ChangeShapes Go.WideShapes Go.ChangeAt Go.RowKit

/-- The reader in memory. -/
structure RAt (W : World) (R : Nat) (mv : Value) (at' : Nat) : Prop where
  lt : R < W.heap.size
  c0 : W.cell? ⟨R, 0, none⟩ = some mv
  c1 : W.cell? ⟨R, 1, none⟩ = some (.int .i64 at')
  fr : ∀ j, W.frozen? ⟨R, j, none⟩ = false

set_option maxHeartbeats 1000000 in
theorem skip_any (R : Nat) (ma : Option Addr) (N cap A n : Nat) (W : World) (h : RAt W R (.slice ma N cap) A) (hA : A + n ≤ N) (hN : N ≤ 1048576) :
    Calls Try.prog 30 #[.pointer (some ⟨R, 0, none⟩), .int .i64 n] W fun e w' => e = .returned (.bool true) ∧ ∃ m, w' = (W.setCell ⟨R, 1, none⟩ (.int .i64 (A + n : Nat))).drewN m := by
  have c0 := h.c0
  have c1 := h.c1
  have f1 := h.fr 1
  clear h
  have hd : decide ((N : Int) - (A : Int) < (n : Int)) = false := decide_eq_false (by omega)
  have hw1 : IntKind.i64.wrap ((N : Int) - (A : Int)) = (N : Int) - (A : Int) := by rw [IntKind.wrap_i64]; omega
  go_enter Try.func30, Try.ntmps30
  go_upto_region 1 with fail
  go_quiet (fail)
  go_wp2
  go_ret
  exact ⟨rfl, nq, by rw [show ((A + n : Nat) : Int) = (A : Int) + (n : Int) by omega]; rfl⟩

/-- A call of a Go function by its contract, as one step of a region that draws its order. -/
theorem step_call {P : Program} {ops : Array Oper} {o : Oper} {a : Act} {w : World} {K : Act → World → Prop} {Q : Exit → Act → World → Prop} {E : Prop}
    (hg : o.guard = none) (f : Nat) (x : Operand) (t : TypeId) (hop : o.op = Op.call { callee := Callee.value (Operand.func f), args := #[x], argTypes := #[t] })
    (xv v0 : Value) (B : World → Prop) (hx : a.eval x = xv) (he : ∀ args w, (callFunc f args).run P w = .ok (.enter f args) w) (hc : Calls P f #[xv] w fun e w' => e = .returned v0 ∧ B w') (hK : ∀ w', B w' → K (a.put o.dst v0) w') :
    if Region.wanted o (yielded ops a.tmps) = true then Oper.wp P o a w K Q else E := by
  have hw : Region.wanted o (yielded ops a.tmps) = true := by simp [Region.wanted, hg]
  rw [if_pos hw]
  have hf : a.eval (Operand.func f) = .func (.func f) #[] #[] := rfl
  have hr : (execOp a.eval o).run P w = .ok (.enter f #[xv]) w := by
    simp [execOp, hop, resolve, invoke, Deferred.ofValue, hf, hx, he, Result.andThen]
  unfold Oper.wp
  rw [hr]
  simp only [Oper.upon]
  exact hc.mono fun e w' ⟨h1, h2⟩ => by subst h1; exact hK w' h2
end Go.Proofs.Qxb6605469a
