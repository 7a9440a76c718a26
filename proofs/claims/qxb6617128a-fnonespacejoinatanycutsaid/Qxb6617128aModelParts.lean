import Derived.Test.Qxb6617128aOneSpace
import Derived.Laws.IdiomStrings
namespace Go.Proofs.Qxb6617128a
open Go.RowKit

/-- the cells of the row behind k rounds of the first loop -/
def filled (l : List UInt8) (k : Nat) : List Value := Lib.byteCells ((l.take k).map detab) ++ List.replicate (l.length - k) (.int .u8 0)

theorem filled_zero (l : List UInt8) : filled l 0 = List.replicate l.length (.int .u8 0) := by simp [filled, Lib.byteCells]
theorem filled_all (l : List UInt8) : filled l l.length = Lib.byteCells (l.map detab) := by simp [filled]
theorem filled_at (l : List UInt8) (k : Nat) (h : k < l.length) : (filled l k)[k]? = some (.int .u8 0) := by
  unfold filled
  rw [List.getElem?_append_right (by simp [Lib.byteCells_length]; omega)]
  simp [Lib.byteCells_length, List.getElem?_replicate]
  omega
theorem filled_set (l : List UInt8) (k : Nat) (h : k < l.length) : (filled l k).set k (.int .u8 (detab l[k]).toNat) = filled l (k + 1) := by
  unfold filled
  rw [List.set_append, if_neg (by simp [Lib.byteCells_length]; omega)]
  have e : l.length - k = (l.length - (k + 1)) + 1 := by omega
  rw [e, List.replicate_succ]
  have e2 : k - (Lib.byteCells (List.map detab (List.take k l))).length = 0 := by simp [Lib.byteCells_length]; omega
  rw [e2, List.set_cons_zero, List.take_succ_eq_append_getElem h, List.map_append, Lib.byteCells_append, List.append_assoc]
  rfl

theorem cell_bytes {w : World} {base g n cap : Nat} {l : List UInt8} (h : w.ownsRow base 5 1 (.slice (some ⟨g, 0, none⟩) n cap) n (Lib.byteCells l)) (k : Nat) (hk : k < n) (hl : l.length = n) :
    w.cell? ⟨g, k, none⟩ = some (.int .u8 (l[k]'(by omega)).toNat) := by
  rw [h.cellAt k (by omega)]
  have : k < l.length := by omega
  simp [Lib.byteCells, this]

theorem cellsOf {w : World} {base g n cap : Nat} {l : List UInt8} (h : w.ownsRow base 5 1 (.slice (some ⟨g, 0, none⟩) n cap) n (Lib.byteCells l)) (hl : l.length = n) :
    ∀ j (hj : j < l.length), w.cell? ((⟨g, 0, none⟩ : Addr).add j) = some (.int .u8 (l[j].toNat : Int)) := by
  intro j hj
  have e : (⟨g, 0, none⟩ : Addr).add j = ⟨g, j, none⟩ := by
    by_cases h0 : j = 0 <;> simp [Addr.add, h0]
  rw [e]; exact cell_bytes h j (by omega) hl

theorem lastSp_skip (l : List UInt8) (k : Nat) (h : k + 1 < l.length) (h1 : l[k] = 32) (h2 : l[k + 1] = 32) : lastSp (l.drop k) = lastSp (l.drop (k + 1)) := by
  rw [List.drop_eq_getElem_cons (by omega : k < l.length), List.drop_eq_getElem_cons h, h1, h2, lastSp_two]
theorem lastSp_take (l : List UInt8) (k : Nat) (h : k < l.length) (h1 : ¬ (∃ h' : k + 1 < l.length, l[k] = 32 ∧ l[k + 1] = 32)) : lastSp (l.drop k) = l[k] :: lastSp (l.drop (k + 1)) := by
  rw [List.drop_eq_getElem_cons h]
  by_cases h3 : k + 1 < l.length
  · rw [List.drop_eq_getElem_cons h3]
    by_cases a : l[k] = 32
    · by_cases b : l[k + 1] = 32
      · exact absurd ⟨h3, a, b⟩ h1
      · rw [a, lastSp_one _ _ (by simp [b])]
    · rw [lastSp_other _ _ (by simp [a])]
  · rw [List.drop_of_length_le (by omega)]
    simp [lastSp]

theorem byte_eq32 (c : UInt8) : ((c.toNat : Int) == 32) = decide (c = 32) := by
  by_cases h : c = 32
  · subst h; decide
  · simp only [h, decide_false]
    rw [beq_eq_false_iff_ne]; intro e
    exact h (UInt8.toNat_inj.1 (by simp; omega))
theorem one_new (w : World) (x : Value) (T : TypeId) : ∀ (j : Nat) (u : Value), [x][j]? = some u → (w.alloc (.cells #[x] T)).cell? ((⟨w.heap.size, 0, none⟩ : Addr).add j) = some u := by
  intro j u hj
  match j, hj with
  | 0, hj => simp at hj; subst hj; simp [Addr.add]

theorem one_cell (c : Int) : ∀ u ∈ [Value.int .u8 c], u.oneCell' = true := by
  intro u hu; simp at hu; subst hu; rfl

theorem rel_push {w wq w4 : World} {g n : Nat} {ul acc : List UInt8} {x : UInt8} {o : Obj}
    (hu : wq.ownsRow w.heap.size 5 1 (.slice (some ⟨w.heap.size, 0, none⟩) n n) n (Lib.byteCells ul))
    (ho : wq.ownsRow (w.heap.size + 1) 5 1 (.slice (some ⟨g, 0, none⟩) acc.length n) acc.length (Lib.byteCells acc))
    (ho4 : w4.ownsRow (w.heap.size + 1) 5 1 (.slice (some ⟨g, 0, none⟩) (acc.length + 1) n) (acc.length + 1) (Lib.byteCells acc ++ [.int .u8 x.toNat]))
    (hg4 : (wq.alloc o).grownBy w4 (some g)) (hbq : Below w.heap.size w wq) :
    w4.ownsRow w.heap.size 5 1 (.slice (some ⟨w.heap.size, 0, none⟩) n n) n (Lib.byteCells ul) ∧
    w4.ownsRow (w.heap.size + 1) 5 1 (.slice (some ⟨g, 0, none⟩) (acc ++ [x]).length n) (acc ++ [x]).length (Lib.byteCells (acc ++ [x])) ∧ Below w.heap.size w w4 := by
  have hgB := (ho.lt g rfl).1
  refine ⟨(hu.alloc o).kept hg4 (Or.inr ?_), ?_, ?_⟩
  · simp [Value.ownBlock]; omega
  · rw [cells_snoc]; simpa using ho4
  · exact (hbq.alloc hbq.size o).grown hg4 (by simp; have := hbq.size; omega) (fun k hk => by simp at hk; omega)
end Go.Proofs.Qxb6617128a
