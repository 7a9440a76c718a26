import Derived.Test.Qxb6617145aGuards
namespace Go.Proofs.Qxb6617145a
open Go.RowKit

theorem info30 : (Try.prog.info? 30).map (fun i => (i.zero, i.size, i.bytes)) = some (some (.pointer none), 1, 8) := by kernel_rfl

theorem CellsAt.below {w w' : World} {ao : Option Addr} {n : Nat} {f : Nat → Value} (h : CellsAt w ao n f) (hb : Below w.heap.size w w') : CellsAt w' ao n f := by
  rcases h with h | ⟨b, off, e, h⟩
  · exact Or.inl h
  · exact Or.inr ⟨b, off, e, fun i hi => cell_below hb (h i hi)⟩

theorem heap_new (V : World) (o : Obj) (m : Nat) (hm : m = V.heap.size) : (V.alloc o).heap[m]? = some o := by subst hm; exact heap_alloc_new V o

/-- a row of n nil pointers, as make lays it -/
def nilRow (n : Nat) : Array Value := madeCells #[.pointer none] n
theorem nilRow_at (n i : Nat) (h : i < n) : (nilRow n)[i]? = some (.pointer none) := by
  have := congrArg (fun l : List Value => l[i]?) (toList_madeCells_one (.pointer none) n)
  simp at this
  unfold nilRow
  rw [this]; simp [h]

/-- make([]*Field, n): the very world -/
theorem wpList_make_at (w : World) {ops : Array Oper} {rest : List Oper} {o : Oper} {a : Act} {Q : Exit → Act → World → Prop}
    (hg : o.guard = none) (l c : Operand) (hop : o.op = Op.makeSlice 27 l c) (L C : Int) (n : Nat) (hl : a.eval l = .int .i64 L) (hc : a.eval c = .int .i64 C) (hL : L = (n : Int)) (hC : C = (n : Int)) (hn : n ≤ 1048576)
    (hK : wpList Try.prog ops Q rest (a.put o.dst (.slice (some ⟨w.heap.size, 0, none⟩) n n)) (w.alloc (.cells (nilRow n) 30))) :
    wpList Try.prog ops Q (o :: rest) a w := by
  obtain ⟨i0, hi, hz0, hz1, hz2⟩ := info_parts info30
  refine wpList_plain hg fun K hK' => ?_
  have hrun := run_make (P := Try.prog) w 27 30 i0 (.pointer none) Try.underlying27 hi hz0 .i64 .i64 n n (by omega) (Int.le_refl _) (by rw [hz2]; omega) (by omega)
  simp only [Int.toNat_natCast, hz1, Nat.mul_one] at hrun
  subst hL
  subst hC
  unfold Oper.wp
  simp [execOp, hop, hl, hc, hrun, Result.andThen]
  exact hK' _ _ hK

/-- the block of field k -/
def qOf (B : Nat) (hR : Nat → Bool) : Nat → Nat
  | 0 => B + 1
  | k + 1 => qOf B hR k + (if hR k then 2 else 1)

theorem qOf_lt (B : Nat) (hR : Nat → Bool) (k : Nat) : qOf B hR k < qOf B hR (k + 1) := by
  simp only [qOf]; split <;> omega
theorem qOf_mono (B : Nat) (hR : Nat → Bool) (j k : Nat) (h : j < k) : qOf B hR j < qOf B hR k := by
  induction k with
  | zero => omega
  | succ k ih =>
    have := qOf_lt B hR k
    rcases Nat.lt_or_ge j k with h' | h'
    · have := ih h'; omega
    · have e : j = k := by omega
      rw [e]; exact this
theorem qOf_gt (B : Nat) (hR : Nat → Bool) (k : Nat) : B < qOf B hR k := by
  cases k with
  | zero => simp [qOf]
  | succ k => have := qOf_mono B hR 0 (k + 1) (by omega); simp only [qOf] at this ⊢; omega
theorem qOf_inj (B : Nat) (hR : Nat → Bool) (j k : Nat) (h : qOf B hR j = qOf B hR k) : j = k := by
  rcases Nat.lt_trichotomy j k with h' | h' | h'
  · have := qOf_mono B hR j k h'; omega
  · exact h'
  · have := qOf_mono B hR k j h'; omega

/-- memory behind k rounds of zzIHBuild's loop -/
structure Built (w wr : World) (B n k : Nat) (nm : Nat → ByteArray) (hR : Nat → Bool) (rv : Nat → ByteArray) : Prop where
  size : wr.heap.size = qOf B hR k
  row : ∀ i, i < n → wr.cell? ⟨B, i, none⟩ = some (if i < k then .pointer (some ⟨qOf B hR i, 0, none⟩) else .pointer none)
  free : ∀ i, wr.frozen? ⟨B, i, none⟩ = false
  name : ∀ i, i < k → wr.cell? ⟨qOf B hR i, 0, none⟩ = some (.string (nm i))
  ref : ∀ i, i < k → (hR i = false ∧ wr.cell? ⟨qOf B hR i, 7, none⟩ = some (.pointer none)) ∨ (hR i = true ∧ ∃ r, wr.cell? ⟨qOf B hR i, 7, none⟩ = some (.pointer (some ⟨r, 0, none⟩)) ∧ wr.cell? ⟨r, 0, none⟩ = some (.string (rv i)))
  blk : ∀ i, i < k → ∃ cs, wr.heap[qOf B hR i]? = some (.cells cs 38 (0, 0))
  old : Below B w wr

theorem built_zero (w : World) (n : Nat) (nm : Nat → ByteArray) (hR : Nat → Bool) (rv : Nat → ByteArray) : Built w (w.alloc (.cells (nilRow n) 30)) w.heap.size n 0 nm hR rv where
  size := by simp [qOf]
  row := fun i hi => by
    rw [World.cell?_alloc_new]
    simpa using nilRow_at n i hi
  free := fun i => frozen_of_row _ _ i _ 30 (heap_alloc_new w _)
  name := fun i hi => absurd hi (Nat.not_lt_zero _)
  ref := fun i hi => absurd hi (Nat.not_lt_zero _)
  blk := fun i hi => absurd hi (Nat.not_lt_zero _)
  old := (Below.refl _ w).alloc (Nat.le_refl _) _

section
variable {w wr W : World} {B n k : Nat} {nm : Nat → ByteArray} {hR : Nat → Bool} {rv : Nat → ByteArray}

theorem built_step (hB : Built w wr B n k nm hR rv) (hk : k < n) (h1 : W.heap.size = qOf B hR (k + 1))
    (h2 : ∀ a : Addr, a.block < wr.heap.size → a ≠ ⟨B, k, none⟩ → W.cell? a = wr.cell? a) (h3 : W.cell? ⟨B, k, none⟩ = some (.pointer (some ⟨wr.heap.size, 0, none⟩))) (h4 : ∀ i, W.frozen? ⟨B, i, none⟩ = false)
    (h5 : W.cell? ⟨wr.heap.size, 0, none⟩ = some (.string (nm k)))
    (h6 : (hR k = false ∧ W.cell? ⟨wr.heap.size, 7, none⟩ = some (.pointer none)) ∨ (hR k = true ∧ ∃ r, W.cell? ⟨wr.heap.size, 7, none⟩ = some (.pointer (some ⟨r, 0, none⟩)) ∧ W.cell? ⟨r, 0, none⟩ = some (.string (rv k))))
    (h7 : Below B w W) (h8 : ∃ cs, W.heap[wr.heap.size]? = some (.cells cs 38 (0, 0))) (h9 : ∀ j, j < wr.heap.size → j ≠ B → W.heap[j]? = wr.heap[j]?) : Built w W B n (k + 1) nm hR rv := by
  have hs := hB.size
  have hgt := qOf_gt B hR k
  have old : ∀ (a : Addr) (v : Value), wr.cell? a = some v → a ≠ ⟨B, k, none⟩ → W.cell? a = some v := fun a v h hne => (h2 a (cell_lt h) hne).trans h
  have neq : ∀ i o, (⟨qOf B hR i, o, none⟩ : Addr) ≠ ⟨B, k, none⟩ := fun i o e => by
    have := qOf_gt B hR i
    simp only [Addr.mk.injEq] at e
    omega
  constructor
  · exact h1
  · intro i hi
    by_cases e : i = k
    · subst e
      rw [if_pos (Nat.lt_succ_self _), h3, hs]
    · have := hB.row i hi
      rw [h2 ⟨B, i, none⟩ (by simp; omega) (by simp), this]
      by_cases h : i < k
      · rw [if_pos h, if_pos (by omega)]
      · rw [if_neg h, if_neg (by omega)]
  · exact h4
  · intro i hi
    by_cases e : i = k
    · subst e; rw [← hs]; exact h5
    · exact old _ _ (hB.name i (by omega)) (neq i 0)
  · intro i hi
    by_cases e : i = k
    · subst e; rw [← hs]; exact h6
    · rcases hB.ref i (by omega) with ⟨a, b⟩ | ⟨a, r, b, c⟩
      · exact Or.inl ⟨a, old _ _ b (neq i 7)⟩
      · refine Or.inr ⟨a, r, old _ _ b (neq i 7), old _ _ c ?_⟩
        intro e2
        simp only [Addr.mk.injEq, and_true] at e2
        obtain ⟨rfl, rfl⟩ := e2
        have := hB.row 0 (by omega)
        rw [c] at this
        split at this <;> simp at this
  · intro i hi
    by_cases e : i = k
    · subst e; rw [← hs]; exact h8
    · obtain ⟨cs, hc⟩ := hB.blk i (by omega)
      have hgi := qOf_gt B hR i
      exact ⟨cs, (h9 _ (Array.getElem?_eq_some_iff.1 hc).1 (by omega)).trans hc⟩
  · exact h7

theorem built_one (hB : Built w wr B n k nm hR rv) (hk : k < n) (hh : hR k = false) :
    Built w ((wr.setCell ⟨B, k, none⟩ (.pointer (some ⟨wr.heap.size, 0, none⟩))).alloc (.cells #[.string (nm k), .int .i64 0, .int .i64 0, .string ⟨#[]⟩, .bool false, .pointer none, .slice none 0 0, .pointer none] 38)) B n (k + 1) nm hR rv := by
  have hs := hB.size
  have hgt := qOf_gt B hR k
  have es : (wr.setCell ⟨B, k, none⟩ (.pointer (some ⟨wr.heap.size, 0, none⟩))).heap.size = wr.heap.size := by simp [World.setCell]
  refine built_step hB hk ?_ ?_ ?_ ?_ ?_ ?_ ?_ ?_ ?_
  · simp [qOf, hh, hs]
  · intro a ha hne
    rw [World.cell?_alloc_lt _ _ _ (by rw [es]; exact ha), World.cell?_setCell_other _ _ _ _ (Ne.symm hne)]
  · rw [World.cell?_alloc_lt _ _ _ (by rw [es]; show B < _; omega)]
    exact World.cell?_setCell_same _ _ _ (hB.row k hk)
  · intro i
    rw [World.frozen?_alloc_past _ _ _ (by rw [es]; omega), World.frozen?_setCell]
    exact hB.free i
  · rw [World.cell?_alloc_at _ _ _ _ es.symm]; rfl
  · exact Or.inl ⟨hh, by rw [World.cell?_alloc_at _ _ _ _ es.symm]; rfl⟩
  · exact (hB.old.setCell (p := ⟨B, k, none⟩) (Nat.le_refl _) _).alloc (by rw [es]; omega) _
  · exact ⟨_, heap_new _ _ _ es.symm⟩
  · intro j hj hne
    rw [Below.heap_alloc _ _ _ (by rw [es]; exact hj), Below.heap_setCell _ _ _ _ hne]

theorem built_two (hB : Built w wr B n k nm hR rv) (hk : k < n) (hh : hR k = true) :
    Built w (((wr.setCell ⟨B, k, none⟩ (.pointer (some ⟨wr.heap.size, 0, none⟩))).alloc (.cells #[.string (nm k), .int .i64 0, .int .i64 0, .string ⟨#[]⟩, .bool false, .pointer none, .slice none 0 0, .pointer (some ⟨wr.heap.size + 1, 0, none⟩)] 38)).alloc (.cells #[.string (rv k), .string ⟨#[]⟩] 42)) B n (k + 1) nm hR rv := by
  have hs := hB.size
  have hgt := qOf_gt B hR k
  have es : (wr.setCell ⟨B, k, none⟩ (.pointer (some ⟨wr.heap.size, 0, none⟩))).heap.size = wr.heap.size := by simp [World.setCell]
  have es2 : ∀ o, ((wr.setCell ⟨B, k, none⟩ (.pointer (some ⟨wr.heap.size, 0, none⟩))).alloc o).heap.size = wr.heap.size + 1 := fun o => by simp [World.setCell]
  refine built_step hB hk ?_ ?_ ?_ ?_ ?_ ?_ ?_ ?_ ?_
  · simp [qOf, hh, hs]
  · intro a ha hne
    rw [World.cell?_alloc_lt _ _ _ (by rw [es2]; omega), World.cell?_alloc_lt _ _ _ (by rw [es]; exact ha), World.cell?_setCell_other _ _ _ _ (Ne.symm hne)]
  · rw [World.cell?_alloc_lt _ _ _ (by rw [es2]; show B < _; omega), World.cell?_alloc_lt _ _ _ (by rw [es]; show B < _; omega)]
    exact World.cell?_setCell_same _ _ _ (hB.row k hk)
  · intro i
    rw [World.frozen?_alloc_past _ _ _ (by rw [es2]; omega), World.frozen?_alloc_past _ _ _ (by rw [es]; omega), World.frozen?_setCell]
    exact hB.free i
  · rw [World.cell?_alloc_lt _ _ _ (by rw [es2]; show wr.heap.size < _; omega), World.cell?_alloc_at _ _ _ _ es.symm]; rfl
  · refine Or.inr ⟨hh, wr.heap.size + 1, ?_, ?_⟩
    · rw [World.cell?_alloc_lt _ _ _ (by rw [es2]; show wr.heap.size < _; omega), World.cell?_alloc_at _ _ _ _ es.symm]; rfl
    · rw [World.cell?_alloc_at _ _ _ _ (es2 _).symm]; rfl
  · exact ((hB.old.setCell (p := ⟨B, k, none⟩) (Nat.le_refl _) _).alloc (by rw [es]; omega) _).alloc (by rw [es2]; omega) _
  · exact ⟨_, (Below.heap_alloc _ _ _ (by rw [es2]; omega)).trans (heap_new _ _ _ es.symm)⟩
  · intro j hj hne
    rw [Below.heap_alloc _ _ _ (by rw [es2]; omega), Below.heap_alloc _ _ _ (by rw [es]; exact hj), Below.heap_setCell _ _ _ _ hne]

theorem mem_of {hp hs : Bool} {rT : ByteArray} (hB : Built w wr B n n nm hR rv) (hW : Below wr.heap.size wr W) (hf : W.cell? ⟨wr.heap.size, 5, none⟩ = some (.slice (some ⟨B, 0, none⟩) n n)) (hq : W.cell? ⟨wr.heap.size + 1, 6, none⟩ = some (.pointer (some ⟨wr.heap.size, 0, none⟩)))
    (hresp : (hp = false ∧ W.cell? ⟨wr.heap.size + 1, 7, none⟩ = some (.pointer none)) ∨ (hp = true ∧ ∃ rs, W.cell? ⟨wr.heap.size + 1, 7, none⟩ = some (.pointer (some ⟨rs, 0, none⟩)) ∧
      ((hs = false ∧ W.cell? ⟨rs, 4, none⟩ = some (.pointer none)) ∨ (hs = true ∧ ∃ re, W.cell? ⟨rs, 4, none⟩ = some (.pointer (some ⟨re, 0, none⟩)) ∧ W.cell? ⟨re, 0, none⟩ = some (.string rT))))) :
    Mem W B n (qOf B hR) nm hR rv (qOf B hR n) (qOf B hR n + 1) hp hs rT := by
  rw [← hB.size]
  constructor
  · intro i hi
    have := hB.row i hi
    rw [if_pos hi] at this
    exact cell_below hW this
  · exact fun i hi => cell_below hW (hB.name i hi)
  · intro i hi
    rcases hB.ref i hi with ⟨a, b⟩ | ⟨a, r, b, c⟩
    · exact Or.inl ⟨a, cell_below hW b⟩
    · exact Or.inr ⟨a, r, cell_below hW b, cell_below hW c⟩
  · intro i hi
    obtain ⟨cs, hc⟩ := hB.blk i hi
    exact ⟨cs, (hW.block _ (Array.getElem?_eq_some_iff.1 hc).1).trans hc⟩
  · exact hf
  · exact hq
  · exact hresp

/-- the cell of the block laid just now, in a world laid on -/
theorem cell_new (V : World) (cs : Array Value) (t : TypeId) (m j : Nat) (v : Value) (hm : m = V.heap.size) (hv : cs[j]? = some v) : (V.alloc (.cells cs t)).cell? ⟨m, j, none⟩ = some v := by
  rw [World.cell?_alloc_at _ _ _ _ hm]; exact hv
end
end Go.Proofs.Qxb6617145a
