import Derived.Test.Qxb6617702aBuild
import Derived.RegionTactic
import Derived.ChangeAlike
namespace Go.Proofs.Qxb6617702a
open Go.RowKit

/-- block g is a latencies -/
def Lat (w : World) (g : Nat) (f : Nat → Int) (n : Int) : Prop := w.heap[g]? = some (.cells (lat f n) 30 (0, 0))

theorem Lat.lt {w : World} {g : Nat} {f : Nat → Int} {n : Int} (h : Lat w g f n) : g < w.heap.size := (Array.getElem?_eq_some_iff.1 h).1
theorem Lat.cell {w : World} {g : Nat} {f : Nat → Int} {n : Int} (h : Lat w g f n) (i : Nat) (hi : i < 3776) : w.cell? ⟨g, i, none⟩ = some (.int .i64 (f i)) := by
  rw [cell_of_row w g i _ 30 (0, 0) h]; exact lat_get f n i hi
theorem Lat.last {w : World} {g : Nat} {f : Nat → Int} {n : Int} (h : Lat w g f n) : w.cell? ⟨g, 3776, none⟩ = some (.int .i64 n) := by
  rw [cell_of_row w g 3776 _ 30 (0, 0) h]; exact lat_last f n
theorem Lat.free {w : World} {g : Nat} {f : Nat → Int} {n : Int} (h : Lat w g f n) (i : Nat) : w.frozen? ⟨g, i, none⟩ = false := frozen_of_row w g i _ 30 h
theorem Lat.below {w w' : World} {g : Nat} {f : Nat → Int} {n : Int} (h : Lat w g f n) (hb : Below w.heap.size w w') : Lat w' g f n := (hb.block g h.lt).trans h

/-- ZZN -/
theorem theN (g : Nat) (f : Nat → Int) (n : Int) (w : World) (h : Lat w g f n) :
    Calls Try.prog 7 #[.pointer (some ⟨g, 0, none⟩)] w fun e w' => e = .returned (.int .i64 n) ∧ w' = w := by
  have hc := h.last
  clear h
  go_enter Try.func7, Try.ntmps7
  go_wp2
  go_ret
  exact ⟨rfl, rfl⟩

set_option maxHeartbeats 400000 in
/-- ZZCounts -/
theorem counts (g : Nat) (f : Nat → Int) (n : Int) (w : World) (h : Lat w g f n) :
    Calls Try.prog 6 #[.pointer (some ⟨g, 0, none⟩)] w fun e w' => e = .returned (.agg (arr f)) ∧ Below w.heap.size w w' := by
  have hz := run_zero22
  have hb : Below w.heap.size w (w.alloc (.cells (arr fun _ => 0) 22)) := (Below.refl _ w).alloc (Nat.le_refl _) _
  have h1 := hb.block g h.lt
  rw [h] at h1
  have h2 : (w.alloc (.cells (arr fun _ => 0) 22)).heap[w.heap.size]? = some (.cells (arr fun _ => 0) 22 (0, 0)) := heap_alloc_new w _
  have H1 : Hid ((w.alloc (.cells (arr fun _ => 0) 22)).heap[g]? = some (.cells (lat f n) 30 (0, 0))) := h1
  have H2 : Hid ((w.alloc (.cells (arr fun _ => 0) 22)).heap[w.heap.size]? = some (.cells (arr fun _ => 0) 22 (0, 0))) := h2
  clear h1 h2
  go_enter Try.func6, Try.ntmps6
  go_wp2_with (first | (refine wpList_load22 rfl _ rfl g rfl (lat f n) 30 (0, 0) f H1.out (lat_get f n) ?_) | (refine wpList_store_row rfl 22 _ _ rfl w.heap.size (arr f) rfl rfl 22 (arr fun _ => 0) H2.out (by rw [arr_size]; exact info22) (by rw [arr_size, arr_size]) (arr_one f) ?_))
  refine bodyPost_ret (v := .agg (arr f)) ?_ rfl ⟨rfl, ?_⟩
  · exact results_cell_row (P := Try.prog) (fn := Try.f6) Try.results6 _ _ w.heap.size 22 (arr f) (0, 0) _ rfl (setRow_heap _ _ _ _ _ _ H2.out) Try.underlying22 rfl (by rw [arr_size]; exact info22)
  · refine hb.trans ⟨rfl, rfl, rfl, by simp, fun k hk => setRow_other _ _ _ _ (by omega)⟩
end Go.Proofs.Qxb6617702a
