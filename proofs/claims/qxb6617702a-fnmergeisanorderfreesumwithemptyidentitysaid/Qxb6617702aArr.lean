import Derived.Test.Qxb6617702aProg
import Derived.WalkKit
import Derived.Laws.Tables
import Derived.Laws.Rows
namespace Go.Proofs.Qxb6617702a
open Go.RowKit

/-- an array of 3776 numbers -/
def arr (f : Nat → Int) : Array Value := (Array.range 3776).map fun i => .int .i64 (f i)
/-- the cells of a latencies -/
def lat (f : Nat → Int) (n : Int) : Array Value := (arr f).push (.int .i64 n)

theorem arr_size (f : Nat → Int) : (arr f).size = 3776 := by simp [arr]
theorem arr_get (f : Nat → Int) (i : Nat) (h : i < 3776) : (arr f)[i]? = some (.int .i64 (f i)) := by simp [arr, h]
theorem arr_congr {f g : Nat → Int} (h : ∀ i, i < 3776 → f i = g i) : arr f = arr g := by
  unfold arr
  apply Array.ext_getElem?
  intro i
  by_cases hi : i < 3776
  · simp [hi, h i hi]
  · simp [hi]
theorem arr_of (cs : Array Value) (f : Nat → Int) (hs : cs.size = 3776) (h : ∀ i, i < 3776 → cs[i]? = some (.int .i64 (f i))) : cs = arr f := by
  apply Array.ext_getElem?
  intro i
  by_cases hi : i < 3776
  · rw [h i hi, arr_get f i hi]
  · rw [Array.getElem?_eq_none (by omega), Array.getElem?_eq_none (by rw [arr_size]; omega)]
theorem lat_size (f : Nat → Int) (n : Int) : (lat f n).size = 3777 := by simp [lat, arr_size]
theorem lat_get (f : Nat → Int) (n : Int) (i : Nat) (h : i < 3776) : (lat f n)[i]? = some (.int .i64 (f i)) := by
  unfold lat
  rw [Array.getElem?_push_lt (by rw [arr_size]; exact h), ← arr_get f i h, Array.getElem?_eq_getElem]
theorem lat_last (f : Nat → Int) (n : Int) : (lat f n)[3776]? = some (.int .i64 n) := by
  unfold lat
  have := arr_size f
  rw [← this]; simp
theorem arr_one (f : Nat → Int) : (arr f).all (·.oneCell') = true := by
  rw [Array.all_eq_true_iff_forall_mem]
  intro v hv
  simp only [arr, Array.mem_map] at hv
  obtain ⟨i, _, rfl⟩ := hv
  rfl

theorem info22 : (Try.prog.info? 22).map (·.size) = some 3776 := by kernel_rfl
theorem info2 : (Try.prog.info? 2).map (·.size) = some 1 := by kernel_rfl

/-- 'load' of the whole array at the head of a block -/
theorem run_load22 (w : World) (g : Nat) (L : Array Value) (T : TypeId) (fr : Nat × Nat) (f : Nat → Int) (hg : w.heap[g]? = some (.cells L T fr)) (hL : ∀ i, i < 3776 → L[i]? = some (.int .i64 (f i))) :
    (loadVar 22 ⟨g, 0, none⟩).run Try.prog w = .ok (.agg (arr f)) w := by
  have hl : (loadCells ⟨g, 0, none⟩ (arr f).toList.length).run Try.prog w = .ok (arr f).toList.toArray w :=
    run_loadCells_list (P := Try.prog) w ⟨g, 0, none⟩ (arr f).toList (fun j v hv => by
      have hadd : (⟨g, 0, none⟩ : Addr).add j = ⟨g, j, none⟩ := by unfold Addr.add; split <;> simp_all
      have hj : j < 3776 := by
        have := (List.getElem?_eq_some_iff.1 hv).1
        rw [Array.length_toList, arr_size] at this; exact this
      rw [hadd, cell_of_row w g j L T fr hg, hL j hj, ← arr_get f j hj]
      simpa using hv)
  rw [Array.length_toList, arr_size, Array.toArray_toList] at hl
  simp only [loadVar, Sem.run_bind, Try.isAgg22, Try.sizeOf22, Result.andThen, if_true, hl]
  rfl
end Go.Proofs.Qxb6617702a
