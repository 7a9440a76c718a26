import Derived.Test.Qxb6617702aRows
import Derived.Test.Qxb6617702aArr
import Derived.ProofKit
import Derived.OpenShut
namespace Go.Proofs.Qxb6617702a
open Go.ChangeShapes Go.WideShapes Go.ChangeAt Go.RowKit

theorem wcells22 : Try.prog.cellsOf 22 = 3776 := by kernel_rfl
theorem wcells2 : Try.prog.cellsOf 2 = 1 := by kernel_rfl
theorem deep : ∃ d, Try.prog.depth = d + 2 := by
  have h : 2 ≤ Try.prog.depth := of_decide_eq_true (by kernel_rfl)
  exact ⟨Try.prog.depth - 2, by omega⟩

/-- a row of 3776 zeros -/
def Zeros (A : Array Value) : Prop := A.size = 3776 ∧ ∀ (i : Nat) (v : Value), A[i]? = some v → v = .int .i64 0

theorem zeros_arr : Zeros (arr fun _ => 0) := ⟨arr_size _, fun i v h => by
  have hi : i < 3776 := by
    have := (Array.getElem?_eq_some_iff.1 h).1
    rw [arr_size] at this; exact this
  rw [arr_get _ i hi] at h
  exact (Option.some.inj h).symm⟩

theorem wtypes : Try.prog.cellTypes Try.prog.depth 22 = some (List.replicate 3776 2) := by
  obtain ⟨d, hd⟩ := deep
  rw [hd]
  simp only [Program.cellTypes, Try.underlying22, Try.underlying2, Option.map_some, Option.some.injEq]
  exact List.flatten_replicate_singleton

theorem wint (w : World) (base : Nat) : Value.okWide Try.prog w .any base 2 (.int .i64 0) := by
  have hw : (Lit.int .i64 0).wf = true := by decide
  simp only [Lit.wf, Bool.and_eq_true, decide_eq_true_eq] at hw
  simp [Value.okWide, Try.underlying2, Cell.okWide, Cell.ok, IntKind.has, hw]

theorem wok (A : Array Value) (hA : Zeros A) (w : World) (base : Nat) : Value.okWide Try.prog w .any base 22 (.agg A) := by
  unfold Value.okWide
  rw [Try.underlying22]
  refine ⟨A, rfl, by rw [wcells22]; exact hA.1, List.replicate 3776 2, wtypes, ⟨1, by rw [List.length_replicate, Nat.one_mul]; exact hA.1⟩, fun i v h => ?_⟩
  have hi : i < 3776 := by
    have := (Array.getElem?_eq_some_iff.1 h).1
    rw [hA.1] at this; exact this
  refine ⟨2, ?_, ?_⟩
  · rw [List.length_replicate, Nat.mod_eq_of_lt hi, List.getElem?_replicate, if_pos hi]
  · rw [hA.2 i v h]
    have := wint w base
    unfold Value.okWide at this
    rw [Try.underlying2] at this
    exact this

theorem mapM_some' {α β : Type} (g : α → Option β) (h : α → β) : ∀ l : List α, (∀ x ∈ l, g x = some (h x)) → l.mapM g = some (l.map h)
  | [], _ => rfl
  | x :: l, hx => by
    rw [List.mapM_cons, hx x (List.mem_cons_self ..), mapM_some' g h l (fun y hy => hx y (List.mem_cons_of_mem _ hy))]
    rfl

theorem wtrod {H : Type} (enc : TypeId × Value → H) (A : Array Value) (hA : Zeros A) (w : World) (base : Nat) (sp : Nat → Bool) (held : Bool) :
    DataW.Trod enc Try.prog w base sp held 22 (.agg A) (.agg ((List.range 3776).map fun _ => .lit (.int .i64 0))) [] := by
  refine ⟨2, ?_⟩
  have hm : ((List.range 3776).mapM fun i => DataW.trod enc Try.prog w base sp held 1 2 ((A.toList.drop (i * Try.prog.cellsOf 2)).take (Try.prog.cellsOf 2))) = some ((List.range 3776).map fun _ => (DataW.lit (.int .i64 0), [])) := by
    refine mapM_some' _ _ _ (fun i hi => ?_)
    have hi' := List.mem_range.1 hi
    have hlt : i < A.size := by rw [hA.1]; exact hi'
    have e : (A.toList.drop (i * Try.prog.cellsOf 2)).take (Try.prog.cellsOf 2) = [.int .i64 0] := by
      rw [wcells2, Nat.mul_one, List.drop_eq_getElem_cons (by simpa using hlt)]
      have h1 : A.toList[i]'(by simpa using hlt) = .int .i64 0 := hA.2 i _ (by rw [Array.getElem?_eq_getElem hlt]; simp)
      rw [h1]; rfl
    rw [e]
    have hw : (Lit.int .i64 0).wf = true := by decide
    simp [DataW.trod, Try.underlying2, hw]
  show DataW.trod enc Try.prog w base sp held 2 22 A.toList = _
  unfold DataW.trod
  rw [Try.underlying22]
  simp only [Array.length_toList, hA.1, wcells22]
  rw [hm, if_pos trivial, Option.map_some]
  generalize List.range 3776 = l
  have e1 : (l.map fun _ => ((DataW.lit (.int .i64 0) : DataW H), ([] : List MemPlace))).map (fun x => x.1) = l.map fun _ => DataW.lit (.int .i64 0) := by rw [List.map_map]; rfl
  have e2 : (l.map fun _ => ((DataW.lit (.int .i64 0) : DataW H), ([] : List MemPlace))).flatMap (fun x => x.2) = [] := by
    rw [List.flatMap_eq_nil_iff]
    intro x hx
    obtain ⟨_, _, rfl⟩ := List.mem_map.1 hx
    rfl
  rw [e1, e2]

theorem wweights {H : Type} (l : List Nat) : DataW.weightsAll Try.prog 2 (l.map fun _ => (DataW.lit (.int .i64 0) : DataW H)) = [] := by
  induction l with
  | nil => rfl
  | cons x l ih => simp only [List.map_cons, DataW.weightsAll, DataW.weights, ih, List.nil_append]

/-- the arguments of the witness -/
def wargs (A : Array Value) : Array Value := #[.agg A, .int .i64 0, .agg A, .int .i64 0, .agg A, .int .i64 0]
def winput (A : Array Value) : Input := ⟨#[], wargs A, []⟩

theorem wwhole {H : Type} (enc : TypeId × Value → H) (A : Array Value) (hA : Zeros A) (w : World) :
    DataW.Whole enc Try.prog Try.f3.params.toList Rows.fnMergeIsAnOrderFreeSumWithEmptyIdentitySpec.vars false w (wargs A).toList
      [.agg ((List.range 3776).map fun _ => .lit (.int .i64 0)), .lit (.int .i64 0), .agg ((List.range 3776).map fun _ => .lit (.int .i64 0)), .lit (.int .i64 0), .agg ((List.range 3776).map fun _ => .lit (.int .i64 0)), .lit (.int .i64 0)] [] [] := by
  have hw : (Lit.int .i64 0).wf = true := by decide
  refine ⟨[], [], ?_, rfl, rfl, ?_, fun h => by cases h⟩
  · rw [Try.params3]
    exact trodAll_cons_mk (wtrod enc A hA w _ _ _) (trodAll_cons_mk (shut_int Try.underlying2 hw) (trodAll_cons_mk (wtrod enc A hA w _ _ _) (trodAll_cons_mk (shut_int Try.underlying2 hw) (trodAll_cons_mk (wtrod enc A hA w _ _ _) (trodAll_cons_mk (shut_int Try.underlying2 hw) trodAll_mk0)))))
  · intro b off h
    cases h

theorem wsized {H : Type} (enc : TypeId × Value → H) (A : Array Value) (hA : Zeros A) (w : World) : sizedMet enc Try.prog Try.f3 (OpenSpec.ofChange Rows.fnMergeIsAnOrderFreeSumWithEmptyIdentitySpec) false w (wargs A) := by
  refine ⟨by kernel_rfl, _, _, _, wwhole enc A hA w, ?_⟩
  have hvt : (OpenSpec.ofChange Rows.fnMergeIsAnOrderFreeSumWithEmptyIdentitySpec).bare.plain.varTypes Try.prog = [] := rfl
  rw [Try.params3, hvt]
  have hp : DataW.weights (H := H) Try.prog 22 (.agg ((List.range 3776).map fun _ => .lit (.int .i64 0))) = [] := by
    unfold DataW.weights
    rw [Try.underlying22]
    exact wweights _
  have hi : DataW.weights (H := H) Try.prog 2 (.lit (.int .i64 0)) = [] := by simp only [DataW.weights]
  generalize (DataW.agg ((List.range 3776).map fun _ => DataW.lit (.int .i64 0)) : DataW H) = D at *
  simp [DataW.weightsEach, hp, hi]

theorem wokAll (A : Array Value) (hA : Zeros A) (w : World) (base : Nat) : ∀ (j : Nat) t v, Try.f3.params[j]? = some t → (wargs A)[j]? = some v → Value.okWide Try.prog w .any base t v := by
  rw [Try.params3]
  intro j t v h1 h2
  match j, h1, h2 with
  | 0, h1, h2 => simp [wargs] at h1 h2; subst h1 h2; exact wok A hA w base
  | 1, h1, h2 => simp [wargs] at h1 h2; subst h1 h2; exact wint w base
  | 2, h1, h2 => simp [wargs] at h1 h2; subst h1 h2; exact wok A hA w base
  | 3, h1, h2 => simp [wargs] at h1 h2; subst h1 h2; exact wint w base
  | 4, h1, h2 => simp [wargs] at h1 h2; subst h1 h2; exact wok A hA w base
  | 5, h1, h2 => simp [wargs] at h1 h2; subst h1 h2; exact wint w base
  | j + 6, h1, h2 => simp at h1

theorem winOk (A : Array Value) (hA : Zeros A) (w : World) (base : Nat) : Input.okWide Try.prog w .any base 3 (winput A) := by
  refine ⟨fun o ho => ?_, fun gv hgv => ?_, by kernel_rfl, Try.f3, Try.func3, by kernel_rfl, by kernel_rfl, by kernel_rfl, ?_, wokAll A hA w base⟩
  · simp [winput] at ho
  · simp [winput] at hgv
  · rw [Try.params3]; rfl

theorem wv (os : Os) (A : Array Value) : (World.plainHolding Try.prog os (winput A)).variablesB Try.prog = true := by kernel_rfl
theorem wr (os : Os) (A : Array Value) : ((World.plainHolding Try.prog os (winput A)).heap.toList.drop Try.prog.globals.size).take ((begin Try.prog (fun _ _ => 0) default).world.heap.size - Try.prog.globals.size) =
    (begin Try.prog (fun _ _ => 0) default).world.heap.toList.drop Try.prog.globals.size := by kernel_rfl

theorem witness {H : Type} (enc : TypeId × Value → H) (os : Os) : ∃ (w : World) (tape : Tape) (i : Input), w.os = os ∧ (w.forCall tape i).Shaped Try.checked.prog ∧ i.vars = [] ∧ Input.okWide Try.checked.prog (w.forCall tape i) .any w.heap.size 3 i ∧
    Rows.fnMergeIsAnOrderFreeSumWithEmptyIdentitySpec.pre6 enc Try.checked.prog Try.f3 Rows.fnMergeIsAnOrderFreeSumWithEmptyIdentityRow.domain false (w.forCall tape i).memory i.args ∧ ({} : Assume).holds Try.checked.prog (lone (Frame.enter Try.checked.prog 3 i.args .normal) [] (w.forCall tape i)) := by
  have hA := zeros_arr
  generalize arr (fun _ => 0) = A at *
  refine ⟨World.holding Try.prog os (winput A), fun _ _ => 0, winput A, rfl, World.shaped_of_B (wv os A) (wr os A), rfl, winOk A hA _ _, ⟨⟨_, _, _, wwhole enc A hA _, rfl⟩, wsized enc A hA _⟩, ?_⟩
  simp only [Assume.holds]
  exact ⟨by simp, by simp, by simp, by simp, by simp⟩
end Go.Proofs.Qxb6617702a
