/-
  A call by its contract, as one step of a region that draws.
-/
import Derived.Test.Qxb6000751aCons
import Derived.Deep.RegionLaw
namespace Go.Proofs.Qxb6000751a
open Go.RowKit

theorem step_stem {ops : Array Oper} {o : Oper} {a : Act} {w : World} {K : Act → World → Prop} {Q : Exit → Act → World → Prop} {E : Prop}
    (hg : o.guard = none) (x y : Operand) (t u : TypeId) (hop : o.op = Op.call { callee := Callee.value (Operand.func 39), args := #[x, y], argTypes := #[t, u] })
    (v0 v1 v : Value) (hx : a.eval x = v0) (hy : a.eval y = v1) (hc : Calls Try.prog 39 #[v0, v1] w fun e w' => e = .returned v ∧ w' = w) (hK : K (a.put o.dst v) w) :
    if Region.wanted o (yielded ops a.tmps) = true then Oper.wp Try.prog o a w K Q else E := by
  have hw : Region.wanted o (yielded ops a.tmps) = true := by simp [Region.wanted, hg]
  rw [if_pos hw]
  have HC : Hid (Calls Try.prog 39 #[v0, v1] w fun e w' => e = .returned v ∧ w' = w) := hc
  clear hc
  have he : execOp a.eval o = callFunc 39 #[v0, v1] := by
    obtain ⟨dst, op, ty, pos, after, guard⟩ := o
    simp only at hop
    subst hop
    show callFunc 39 (#[] ++ #[x, y].map a.eval ++ #[]) = _
    simp [hx, hy]
  unfold Oper.wp
  rw [he]
  have hr : (callFunc 39 #[v0, v1]).run Try.prog w = .ok (.enter 39 #[v0, v1]) w := by
    have hn : (Try.f39.name == "runtime.NumGoroutine") = false := by kernel_rfl
    have h1 : Try.f39.name ≠ "runtime.NumGoroutine" := by simpa using hn
    obtain ⟨c, hb⟩ : ∃ c, Try.f39.body = some c := ⟨_, rfl⟩
    simp [callFunc, Try.func39, h1, hb]
  rw [hr, Oper.upon_enter]
  refine HC.out.mono ?_
  rintro e w' ⟨rfl, rfl⟩
  exact hK
end Go.Proofs.Qxb6000751a
