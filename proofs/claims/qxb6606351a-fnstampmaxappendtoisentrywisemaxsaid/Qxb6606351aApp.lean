/-
  An append of nothing.
-/
import Derived.Test.Qxb6606351aBase
namespace Go.Proofs.Qxb6606351a
set_option linter.unusedVariables false
set_option linter.unusedSimpArgs false

theorem run_append_none {P : Program} (w : World) (base : Nat) (t ty e : TypeId) (i : TypeInfo) (ht : P.underlying t = some (.slice e)) (hi : P.info? e = some i) (v : Value) (n : Nat) (xs : List Value) (hown : w.ownsRow base e i.size v n xs) (y : Option Addr) (c : Nat) :
    (Builtin.append_ #[t, t] ty #[v, .slice y 0 c]).run P w = .ok v w := by
  rcases hown.2 with ⟨rfl, rfl⟩ | ⟨g, cap, cur, rfl, hbg, hg, hnc, hcm, hcs, htake⟩
  · cases y <;> simp [Builtin.append_, run_underlying ht, sizeOf, typeInfo, hi, Builtin.lenOf, Builtin.firstCells, loadCells, loadCellsFrom]
  · cases y <;> simp [Builtin.append_, run_underlying ht, sizeOf, typeInfo, hi, Builtin.lenOf, Builtin.firstCells, loadCells, loadCellsFrom, hnc, storeCells]

theorem wpList_append_none {P : Program} (w : World) {ops : Array Oper} {rest : List Oper} {o : Oper} {a : Act} {Q : Exit → Act → World → Prop} (hgd : o.guard = none) (s x : Operand) (t : TypeId)
    (ho : o.op = .call { callee := .builtin .append, args := #[s, x], argTypes := #[t, t] })
    (base : Nat) (e : TypeId) (i : TypeInfo) (size : Nat) (ht : P.underlying t = some (.slice e)) (hi : P.info? e = some i) (hsize : i.size = size)
    (v : Value) (n : Nat) (xs : List Value) (hs : a.eval s = v) (hown : w.ownsRow base e size v n xs) (y : Option Addr) (c : Nat) (hx : a.eval x = .slice y 0 c)
    (h : wpList P ops Q rest (a.put o.dst v) w) : wpList P ops Q (o :: rest) a w := by
  subst hsize
  refine wpList_plain hgd fun K hK => ?_
  have hr := run_append_none (P := P) w base t o.type e i ht hi v n xs hown y c
  unfold Oper.wp execOp
  simp only [ho, resolve, invoke, builtin, Sem.run_bind, Sem.run_pure, Result.andThen_ok, List.map_toArray, List.map_cons, List.map_nil, hs, hx, hr]
  exact hK _ _ h
end Go.Proofs.Qxb6606351a
