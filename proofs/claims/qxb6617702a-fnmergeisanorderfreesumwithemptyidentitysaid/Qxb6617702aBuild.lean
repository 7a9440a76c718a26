import Derived.Test.Qxb6617702aLaws
namespace Go.Proofs.Qxb6617702a
open Go.RowKit

theorem fold_list (l : List Value) : ∀ (k : Nat) (Z : Array Value), k + l.length ≤ Z.size →
    ((l.zipIdx k).foldl (fun cs p => cs.setIfInBounds (0 + p.2) p.1) Z).size = Z.size ∧
    ∀ i, ((l.zipIdx k).foldl (fun cs p => cs.setIfInBounds (0 + p.2) p.1) Z)[i]? = if k ≤ i ∧ i < k + l.length then l[i - k]? else Z[i]? := by
  induction l with
  | nil => intro k Z _; simp; intro i h1 h2; omega
  | cons c l ih =>
    intro k Z h
    simp only [List.length_cons] at h
    rw [List.zipIdx_cons, List.foldl_cons]
    obtain ⟨h1, h2⟩ := ih (k + 1) (Z.setIfInBounds (0 + k) c) (by simp; omega)
    refine ⟨by rw [h1]; simp, fun i => ?_⟩
    rw [h2 i]
    by_cases e : i = k
    · subst e
      rw [if_neg (by omega), if_pos (by simp only [List.length_cons]; omega), Nat.sub_self, List.getElem?_cons_zero]
      simp only [Nat.zero_add]
      rw [Array.getElem?_setIfInBounds_self_of_lt (by omega)]
    · by_cases hb : k + 1 ≤ i ∧ i < k + 1 + l.length
      · rw [if_pos hb, if_pos (by simp only [List.length_cons]; omega)]
        have : i - k = (i - (k + 1)) + 1 := by omega
        rw [this, List.getElem?_cons_succ]
      · rw [if_neg hb, if_neg (by simp only [List.length_cons]; omega)]
        simp only [Nat.zero_add]
        rw [Array.getElem?_setIfInBounds_ne (fun h => e h.symm)]

theorem fill_push (A Z : Array Value) (x : Value) (h : A.size + 1 = Z.size) :
    ((A.zipIdx.foldl (fun cs p => cs.setIfInBounds (0 + p.2) p.1) Z).setIfInBounds A.size x) = A.push x := by
  obtain ⟨h1, h2⟩ := fold_list A.toList 0 Z (by simp; omega)
  have e : A.zipIdx.foldl (fun cs p => cs.setIfInBounds (0 + p.2) p.1) Z = (A.toList.zipIdx 0).foldl (fun cs p => cs.setIfInBounds (0 + p.2) p.1) Z := by
    rw [← Array.foldl_toList, Array.toList_zipIdx]
  rw [e]
  apply Array.ext_getElem?
  intro i
  by_cases hi : i = A.size
  · subst hi
    rw [Array.getElem?_setIfInBounds_self_of_lt (by omega)]
    simp
  · rw [Array.getElem?_setIfInBounds_ne (fun h => hi h.symm), h2 i]
    by_cases hb : i < A.size
    · rw [if_pos (by simp; omega)]
      simp [Array.getElem?_push, hi]
    · rw [if_neg (by simp; omega), Array.getElem?_eq_none (by omega), Array.getElem?_eq_none (by simp; omega)]

theorem zero30 : (Try.prog.info? 30).map (fun i => i.zero.map (fun v => v.cells.size)) = some (some 3777) := by kernel_rfl

theorem run_build30 (A : Array Value) (hA : A.size = 3776) (n : Int) (w : World) : (Instr.build 30 #[(0, .agg A), (1, .int .i64 n)]).run Try.prog w = .ok (.agg (A.push (.int .i64 n))) w := by
  obtain ⟨i, hi, h1⟩ := Option.map_eq_some_iff.1 zero30
  obtain ⟨v, hv, s1⟩ := Option.map_eq_some_iff.1 h1
  have hz : (zeroValue 30).run Try.prog w = .ok v w := by simp [zeroValue, typeInfo, hi, hv]
  have hf := fill_push A v.cells (.int .i64 n) (by omega)
  have hs22 : ∀ w : World, (sizeOf 22).run Try.prog w = .ok 3776 w := Try.sizeOf22
  have hs2 : ∀ w : World, (sizeOf 2).run Try.prog w = .ok 1 w := Try.sizeOf2
  simp only [Instr.build, Sem.run_bind, hz, run_underlying Try.underlying30, Result.andThen]
  generalize v.cells = Z at *
  simp [hs22, hs2, Instr.fill, Value.cells, hA]
  have eX : (Array.foldl (fun cs x => cs.setIfInBounds x.snd x.fst) Z A.zipIdx 0 3776) = Array.foldl (fun cs p => cs.setIfInBounds (0 + p.snd) p.fst) Z A.zipIdx := by simp [hA]
  have hsz : (Array.foldl (fun cs p => cs.setIfInBounds (0 + p.snd) p.fst) Z A.zipIdx).size = 3777 := by
    have := congrArg Array.size hf
    rw [Array.size_setIfInBounds, Array.size_push, hA] at this
    exact this
  rw [hA] at hf
  rw [eX, hf, hsz, if_neg (by omega), if_neg (by omega)]
  rfl

theorem wpList_build30 {ops : Array Oper} {rest : List Oper} {o : Oper} {a : Act} {w : World} {Q : Exit → Act → World → Prop} (hg : o.guard = none) (x y : Operand) (ho : o.op = .build 30 #[(0, x), (1, y)])
    (f : Nat → Int) (n : Int) (hx : a.eval x = .agg (arr f)) (hy : a.eval y = .int .i64 n)
    (h : wpList Try.prog ops Q rest (a.put o.dst (.agg (lat f n))) w) : wpList Try.prog ops Q (o :: rest) a w := by
  refine wpList_val hg ?_ h
  have hr := run_build30 (arr f) (arr_size f) n w
  unfold lat
  generalize arr f = A at *
  unfold execOp
  simp only [ho, List.map_toArray, List.map_cons, List.map_nil, hx, hy, Sem.run_bind, Sem.run_pure, Result.andThen_ok, hr]

set_option maxHeartbeats 400000 in
/-- ZZMakeLatencies -/
theorem make (f : Nat → Int) (n : Int) (w : World) :
    Calls Try.prog 4 #[.agg (arr f), .int .i64 n] w fun e w' => e = .returned (.pointer (some ⟨w.heap.size + 1, 0, none⟩)) ∧ w' = (w.alloc (.cells (arr f) 22)).alloc (.cells (lat f n) 30) := by
  have h1 : (w.alloc (.cells (arr f) 22)).heap[w.heap.size]? = some (.cells (arr f) 22 (0, 0)) := heap_alloc_new w _
  go_enter Try.func4, Try.ntmps4
  go_wp2_with (first | (refine wpList_load22 rfl _ rfl w.heap.size rfl (arr f) 22 (0, 0) f h1 (arr_get f) ?_) | (refine wpList_build30 rfl _ _ rfl f n rfl rfl ?_))
  go_ret
  exact ⟨rfl, rfl⟩
end Go.Proofs.Qxb6617702a
