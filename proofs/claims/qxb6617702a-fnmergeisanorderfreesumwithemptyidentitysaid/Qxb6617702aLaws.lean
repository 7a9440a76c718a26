import Derived.Test.Qxb6617702aArr
import Derived.ChangeKeysEq
namespace Go.Proofs.Qxb6617702a
open Go.RowKit

theorem cells2 : Try.prog.cellsOf 2 = 1 := by kernel_rfl

theorem run_same2 (d : Nat) (x : Int) (w : World) : (Op.equalIn (d + 1) 2 (.int .i64 x) (.int .i64 x)).run Try.prog w = .ok true w := by
  rw [run_equalIn_int w d 2 .i64 .i64 x x Try.underlying2]; simp
theorem run_part2 (A : Array Value) (x : Int) (i : Nat) (h : A[i]? = some (.int .i64 x)) (w : World) : (part 2 A (i * Try.prog.cellsOf 2)).run Try.prog w = .ok (.int .i64 x) w := by
  rw [cells2, Nat.mul_one]
  simp [part, Try.isAgg2, h]

/-- two arrays that are one compare equal -/
theorem run_items (d c : Nat) (A : Array Value) (f : Nat → Int) (w : World) : ∀ is : List Nat, (∀ i ∈ is, ∀ w, (part 2 A (i * c)).run Try.prog w = .ok (.int .i64 (f i)) w) → (Op.eqItems (d + 1) 2 c A A is).run Try.prog w = .ok true w := by
  intro is
  induction is with
  | nil => intro _; simp [Op.eqItems]
  | cons i is ih =>
    intro h
    have h1 := h i (List.mem_cons_self ..)
    simp only [Op.eqItems, Sem.run_bind, h1, run_same2, Result.andThen]
    simpa using ih (fun j hj => h j (List.mem_cons_of_mem _ hj))
theorem run_equalA (d : Nat) (f : Nat → Int) (A : Array Value) (w : World) (h : ∀ i, i < 3776 → A[i]? = some (.int .i64 (f i))) : (Op.equalIn (d + 2) 22 (.agg A) (.agg A)).run Try.prog w = .ok true w := by
  obtain ⟨i, hi, _⟩ := Option.map_eq_some_iff.1 info2
  rw [run_equalIn_array w (d + 1) A A Try.underlying22 hi]
  exact run_items d _ A f w _ (fun i hi => run_part2 A (f i) i (h i (List.mem_range.1 hi)))
theorem run_equal22 (f : Nat → Int) (w : World) : (Op.equalIn 10000 22 (.agg (arr f)) (.agg (arr f))).run Try.prog w = .ok true w := run_equalA 9998 f (arr f) w (arr_get f)

theorem zero_size : (Try.prog.info? 22).map (fun i => i.zero.map (fun v => v.cells.size)) = some (some 3776) := by kernel_rfl
theorem zero_all : (Try.prog.info? 22).map (fun i => i.zero.map (fun v => v.cells.toList.all (fun x => match x with | .int .i64 0 => true | _ => false))) = some (some true) := by kernel_rfl
theorem zero_agg : (Try.prog.info? 22).map (fun i => i.zero.map (fun v => match v with | .agg _ => true | _ => false)) = some (some true) := by kernel_rfl

theorem zero_cells (cs : Array Value) (hs : cs.size = 3776) (ha : cs.toList.all (fun x => match x with | .int .i64 0 => true | _ => false) = true) : cs = arr fun _ => 0 := by
  refine arr_of cs _ hs (fun i hi => ?_)
  rw [List.all_eq_true] at ha
  have h1 : i < cs.size := by omega
  have h2 := ha cs[i] (by simp)
  rw [Array.getElem?_eq_getElem h1]
  revert h2
  generalize cs[i] = v
  intro h2
  split at h2
  · rfl
  · simp at h2

theorem run_zero22 (w : World) : (zeroValue 22).run Try.prog w = .ok (.agg (arr fun _ => 0)) w := by
  obtain ⟨i, hi, h1⟩ := Option.map_eq_some_iff.1 zero_size
  obtain ⟨i2, hi2, h2⟩ := Option.map_eq_some_iff.1 zero_all
  obtain ⟨i3, hi3, h3⟩ := Option.map_eq_some_iff.1 zero_agg
  rw [hi] at hi2 hi3
  obtain rfl : i = i2 := by simpa using hi2
  obtain rfl : i = i3 := by simpa using hi3
  obtain ⟨v, hv, s1⟩ := Option.map_eq_some_iff.1 h1
  rw [hv] at h2 h3
  simp only [Option.map_some, Option.some.injEq] at h2 h3
  cases v with
  | agg cs =>
    have e := zero_cells cs s1 h2
    subst e
    generalize arr (fun _ => 0) = A at *
    simp [zeroValue, typeInfo, hi, hv]
  | _ => simp at h3

theorem run_indexA (A : Array Value) (x : Int) (k : Nat) (hk : k < 3776) (h : A[k]? = some (.int .i64 x)) (w : World) : (Instr.index 22 (.agg A) (.int .i64 k)).run Try.prog w = .ok (.int .i64 x) w := by
  have h2 : ¬ 3776 ≤ k := by omega
  simp [Instr.index, asIntOf, run_underlying Try.underlying22, Try.sizeOf2, part, Try.isAgg2, h2, h]
theorem run_index22 (f : Nat → Int) (k : Nat) (hk : k < 3776) (w : World) : (Instr.index 22 (.agg (arr f)) (.int .i64 k)).run Try.prog w = .ok (.int .i64 (f k)) w :=
  run_indexA (arr f) (f k) k hk (arr_get f k hk) w

/-- an operation that yields a value -/
theorem wpList_val {ops : Array Oper} {rest : List Oper} {o : Oper} {a : Act} {w w' : World} {Q : Exit → Act → World → Prop} {v : Value} (hg : o.guard = none)
    (hrun : (execOp a.eval o).run Try.prog w = .ok (.value v) w') (h : wpList Try.prog ops Q rest (a.put o.dst v) w') : wpList Try.prog ops Q (o :: rest) a w :=
  wpList_plain hg fun K hK => by
    unfold Oper.wp
    rw [hrun]
    exact hK _ _ h

theorem run_loadAt (o : Oper) (a : Act) (w : World) (x : Operand) (ho : o.op = .load 22 x)
    (g : Nat) (hx : a.eval x = .pointer (some ⟨g, 0, none⟩)) (v : Value) (hv : (loadVar 22 ⟨g, 0, none⟩).run Try.prog w = .ok v w) : (execOp a.eval o).run Try.prog w = .ok (.value v) w := by
  unfold execOp
  simp only [ho, hx, Instr.loadAt, Instr.sureAddr, Sem.run_bind, Sem.run_pure, Result.andThen_ok, hv]

theorem wpList_load22 {ops : Array Oper} {rest : List Oper} {o : Oper} {a : Act} {w : World} {Q : Exit → Act → World → Prop} (hg : o.guard = none) (x : Operand) (ho : o.op = .load 22 x)
    (g : Nat) (hx : a.eval x = .pointer (some ⟨g, 0, none⟩)) (L : Array Value) (T : TypeId) (fr : Nat × Nat) (f : Nat → Int) (hgp : w.heap[g]? = some (.cells L T fr)) (hL : ∀ i, i < 3776 → L[i]? = some (.int .i64 (f i)))
    (h : wpList Try.prog ops Q rest (a.put o.dst (.agg (arr f))) w) : wpList Try.prog ops Q (o :: rest) a w :=
  wpList_val hg (run_loadAt o a w x ho g hx _ (run_load22 w g L T fr f hgp hL)) h
end Go.Proofs.Qxb6617702a
