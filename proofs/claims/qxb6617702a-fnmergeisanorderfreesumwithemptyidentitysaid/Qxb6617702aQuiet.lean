import Derived.Test.Qxb6617702aMerge
import Derived.Deep.Quiet
namespace Go.Proofs.Qxb6617702a
open Go.RowKit

theorem guard22 : Try.prog.eqGuardType Try.prog.depth 22 = false := by kernel_rfl
theorem run_neqA (A : Array Value) (W : World) (he : (Op.equalIn 10000 22 (.agg A) (.agg A)).run Try.prog W = .ok true W) (x y : Operand) :
    (do eqGuard .neq 22 x y (.agg A) (.agg A); binOp .neq 22 (.agg A) (.agg A) : Sem Value).run Try.prog W = .ok (.bool false) W := by
  rw [Sem.run_bind, run_eqGuard_agg W .neq 22 x y A A guard22, Result.andThen_ok, run_neq_struct W 22 A A, he, Result.andThen_ok]
  rfl
theorem run_neq22 (f : Nat → Int) (W : World) (x y : Operand) :
    (do eqGuard .neq 22 x y (.agg (arr f)) (.agg (arr f)); binOp .neq 22 (.agg (arr f)) (.agg (arr f)) : Sem Value).run Try.prog W = .ok (.bool false) W := run_neqA (arr f) W (run_equal22 f W) x y
theorem run_neqI (n : Int) (W : World) (x y : Operand) :
    (do eqGuard .neq 2 x y (.int .i64 n) (.int .i64 n); binOp .neq 2 (.int .i64 n) (.int .i64 n) : Sem Value).run Try.prog W = .ok (.bool false) W := by
  simp [go_sem]
theorem run_call1 (o : Oper) (a : Act) (f : Nat) (x : Operand) (ts : Array TypeId) (ho : o.op = .call { callee := .value (.func f), args := #[x], argTypes := ts })
    (av : Value) (hx : a.eval x = av) (W : World) (hent : (callFunc f #[av]).run Try.prog W = .ok (.enter f #[av]) W) : (execOp a.eval o).run Try.prog W = .ok (.enter f #[av]) W := by
  have hf : a.eval (.func f) = .func (Fn.func f) #[] #[] := rfl
  unfold execOp
  simp only [ho, resolve, List.map_toArray, List.map_cons, List.map_nil, hx, hf, Deferred.ofValue, invoke, Sem.run_bind, Sem.run_pure, Result.andThen_ok]
  simpa using hent

section
variable {ops : Array Oper} {C : World → Prop} {Q : Act → Prop} {a : Act} {o : Oper} {rest : List Oper}

theorem quiet_val (hw : Region.wanted o (yielded ops a.tmps) = true) (v : Value) (hrun : ∀ W, C W → (execOp a.eval o).run Try.prog W = .ok (.value v) W)
    (h : wpQuiet Try.prog ops C Q rest (a.put o.dst v)) : wpQuiet Try.prog ops C Q (o :: rest) a := by
  unfold wpQuiet
  rw [if_pos hw]
  refine ⟨v, fun W hW => ?_, h⟩
  unfold Oper.quietAt
  rw [hrun W hW]
  exact ⟨rfl, rfl⟩

theorem quiet_call (hw : Region.wanted o (yielded ops a.tmps) = true) (f : Nat) (x : Operand) (ts : Array TypeId) (ho : o.op = .call { callee := .value (.func f), args := #[x], argTypes := ts })
    (av v : Value) (hx : a.eval x = av) (hent : ∀ W : World, (callFunc f #[av]).run Try.prog W = .ok (.enter f #[av]) W)
    (hc : ∀ W, C W → Calls Try.prog f #[av] W fun e W' => e = .returned v ∧ C W')
    (h : wpQuiet Try.prog ops C Q rest (a.put o.dst v)) : wpQuiet Try.prog ops C Q (o :: rest) a := by
  unfold wpQuiet
  rw [if_pos hw]
  refine ⟨v, fun W hW => ?_, h⟩
  unfold Oper.quietAt
  rw [run_call1 o a f x ts ho av hx W (hent W)]
  exact ⟨rfl, hc W hW⟩

theorem quiet_move (hw : Region.wanted o (yielded ops a.tmps) = true) (x : Operand) (ho : o.op = .move x) (v : Value) (hx : a.eval x = v)
    (h : wpQuiet Try.prog ops C Q rest (a.put o.dst v)) : wpQuiet Try.prog ops C Q (o :: rest) a :=
  quiet_val hw v (fun W _ => by unfold execOp; simp only [ho, hx, Sem.run_pure]) h

theorem quiet_load (hw : Region.wanted o (yielded ops a.tmps) = true) (x : Operand) (ho : o.op = .load 22 x) (g : Nat) (hx : a.eval x = .pointer (some ⟨g, 0, none⟩)) (f : Nat → Int)
    (hl : ∀ W, C W → (loadVar 22 ⟨g, 0, none⟩).run Try.prog W = .ok (.agg (arr f)) W)
    (h : wpQuiet Try.prog ops C Q rest (a.put o.dst (.agg (arr f)))) : wpQuiet Try.prog ops C Q (o :: rest) a :=
  quiet_val hw _ (fun W hW => run_loadAt o a W x ho g hx _ (hl W hW)) h

theorem run_neqOp (o : Oper) (a : Act) (W : World) (x y : Operand) (t t' : TypeId) (ho : o.op = .binOp .neq t x y t') (u v : Value) (hx : a.eval x = u) (hy : a.eval y = u)
    (hr : (do eqGuard .neq t x y u u; binOp .neq t u u : Sem Value).run Try.prog W = .ok v W) : (execOp a.eval o).run Try.prog W = .ok (.value v) W := by
  unfold execOp
  simp only [ho, hx, hy]
  rw [Sem.run_bind, hr]
  rfl

theorem quiet_neqA (hw : Region.wanted o (yielded ops a.tmps) = true) (x y : Operand) (t : TypeId) (ho : o.op = .binOp .neq 22 x y t) (f : Nat → Int) (hx : a.eval x = .agg (arr f)) (hy : a.eval y = .agg (arr f))
    (h : wpQuiet Try.prog ops C Q rest (a.put o.dst (.bool false))) : wpQuiet Try.prog ops C Q (o :: rest) a :=
  quiet_val hw _ (fun W _ => run_neqOp o a W x y 22 t ho _ _ hx hy (run_neq22 f W x y)) h

theorem quiet_neqI (hw : Region.wanted o (yielded ops a.tmps) = true) (x y : Operand) (t : TypeId) (ho : o.op = .binOp .neq 2 x y t) (n : Int) (hx : a.eval x = .int .i64 n) (hy : a.eval y = .int .i64 n)
    (h : wpQuiet Try.prog ops C Q rest (a.put o.dst (.bool false))) : wpQuiet Try.prog ops C Q (o :: rest) a :=
  quiet_val hw _ (fun W _ => run_neqOp o a W x y 2 t ho _ _ hx hy (run_neqI n W x y)) h

theorem quiet_pick (hw : Region.wanted o (yielded ops a.tmps) = true) (c x y : Operand) (ho : o.op = .pick c x y) (hc : a.eval c = .bool false) (v : Value) (hy : a.eval y = v)
    (h : wpQuiet Try.prog ops C Q rest (a.put o.dst v)) : wpQuiet Try.prog ops C Q (o :: rest) a :=
  quiet_val hw _ (fun W _ => by
    unfold execOp
    simp [ho, hc, hy, asBool]) h
end
end Go.Proofs.Qxb6617702a
