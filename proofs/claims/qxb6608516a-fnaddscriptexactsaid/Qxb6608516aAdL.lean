/- 'len(m)' for the walk and for a region that draws its order, where its run is known by an equation. -/
import Derived.Test.Qxb6608516aAdH
import Derived.Deep.RegionLaw
namespace Go.Proofs.Qxb6608516a.adL
open Go.RowKit

theorem wp_len_run {P : Program} (w : World) {o : Oper} {a : Act} {K : Act → World → Prop} {Q : Exit → Act → World → Prop} (x : Operand) (t : TypeId)
    (ho : o.op = Op.call { callee := Callee.builtin Builtin.len, args := #[x], argTypes := #[t] }) (v res : Value) (hx : a.eval x = v)
    (hr : (Builtin.len_ #[t] o.type #[v]).run P w = .ok res w) (h : K (a.put o.dst res) w) : Oper.wp P o a w K Q := by
  unfold Oper.wp
  simp [execOp, ho, resolve, invoke, builtin, hx, hr, Result.andThen]
  exact h
theorem wpList_len_run {P : Program} (w : World) {ops : Array Oper} {rest : List Oper} {o : Oper} {a : Act} {Q : Exit → Act → World → Prop} (hgd : o.guard = none) (x : Operand) (t : TypeId)
    (ho : o.op = Op.call { callee := Callee.builtin Builtin.len, args := #[x], argTypes := #[t] }) (v res : Value) (hx : a.eval x = v)
    (hr : (Builtin.len_ #[t] o.type #[v]).run P w = .ok res w) (h : wpList P ops Q rest (a.put o.dst res) w) : wpList P ops Q (o :: rest) a w :=
  wpList_plain hgd fun _ hK => wp_len_run w x t ho v res hx hr (hK _ _ h)
theorem step_len_run {P : Program} (w : World) {ops : Array Oper} {o : Oper} {a : Act} {K : Act → World → Prop} {Q : Exit → Act → World → Prop} {E : Prop} (hg : o.guard = none) (x : Operand) (t : TypeId)
    (ho : o.op = Op.call { callee := Callee.builtin Builtin.len, args := #[x], argTypes := #[t] }) (v res : Value) (hx : a.eval x = v)
    (hr : (Builtin.len_ #[t] o.type #[v]).run P w = .ok res w) (h : K (a.put o.dst res) w) : if Region.wanted o (yielded ops a.tmps) = true then Oper.wp P o a w K Q else E := by
  have hw : Region.wanted o (yielded ops a.tmps) = true := by simp [Region.wanted, hg]
  rw [if_pos hw]
  exact wp_len_run w x t ho v res hx hr h
end Go.Proofs.Qxb6608516a.adL
