import Derived.Test.Qxb6628238aPacket
namespace Go.Proofs.Qxb6628238a
open Go.RowKit

/-- 'append(s, x...)', x without an element: s, and nothing turns. -/
theorem run_append_zero (w : World) (ty : TypeId) (av : Option Addr) (n c : Nat) (xa : Option Addr) (xc : Nat) (hn : n ≤ c) :
    (Builtin.append_ #[22, 22] ty #[.slice av n c, .slice xa 0 xc]).run Try.prog w = .ok (.slice av n c) w := by
  obtain ⟨i0, hi, hz0, hz1, hz2⟩ := info_parts info5
  cases av <;> cases xa <;> simp [Builtin.append_, run_underlying Try.underlying22, sizeOf, typeInfo, hi, Builtin.firstCells, Builtin.lenOf, hn, loadCells, loadCellsFrom, storeCells]

theorem wp_append_zero (w : World) {o : Oper} {a : Act} {K : Act → World → Prop} {Q : Exit → Act → World → Prop} (s x : Operand)
    (ho : o.op = .call { callee := .builtin .append, args := #[s, x], argTypes := #[22, 22] })
    (av : Option Addr) (n c : Nat) (xa : Option Addr) (m xc : Nat) (hs : a.eval s = .slice av n c) (hx : a.eval x = .slice xa m xc) (hm : m = 0) (hn : n ≤ c)
    (h : K (a.put o.dst (.slice av n c)) w) : o.wp Try.prog a w K Q := by
  subst hm
  have hr := run_append_zero w o.type av n c xa xc hn
  unfold Oper.wp execOp
  simp only [ho, resolve, invoke, builtin, Sem.run_bind, Sem.run_pure, Result.andThen_ok, List.map_toArray, List.map_cons, List.map_nil, hs, hx, hr]
  exact h

theorem wpList_append_zero (w : World) {ops : Array Oper} {rest : List Oper} {o : Oper} {a : Act} {Q : Exit → Act → World → Prop} (hgd : o.guard = none) (s x : Operand)
    (ho : o.op = .call { callee := .builtin .append, args := #[s, x], argTypes := #[22, 22] })
    (av : Option Addr) (n c : Nat) (xa : Option Addr) (m xc : Nat) (hs : a.eval s = .slice av n c) (hx : a.eval x = .slice xa m xc) (hm : m = 0) (hn : n ≤ c)
    (h : wpList Try.prog ops Q rest (a.put o.dst (.slice av n c)) w) : wpList Try.prog ops Q (o :: rest) a w :=
  wpList_plain hgd fun _ hK => wp_append_zero w s x ho av n c xa m xc hs hx hm hn (hK _ _ h)

theorem step_append_zero (w : World) {ops : Array Oper} {o : Oper} {a : Act} {K : Act → World → Prop} {Q : Exit → Act → World → Prop} {E : Prop} (hgd : o.guard = none) (s x : Operand)
    (ho : o.op = .call { callee := .builtin .append, args := #[s, x], argTypes := #[22, 22] })
    (av : Option Addr) (n c : Nat) (xa : Option Addr) (m xc : Nat) (hs : a.eval s = .slice av n c) (hx : a.eval x = .slice xa m xc) (hm : m = 0) (hn : n ≤ c)
    (h : K (a.put o.dst (.slice av n c)) w) : if Region.wanted o (yielded ops a.tmps) = true then Oper.wp Try.prog o a w K Q else E := by
  have hw : Region.wanted o (yielded ops a.tmps) = true := by simp [Region.wanted, hgd]
  rw [if_pos hw]
  exact wp_append_zero w s x ho av n c xa m xc hs hx hm hn h
end Go.Proofs.Qxb6628238a
