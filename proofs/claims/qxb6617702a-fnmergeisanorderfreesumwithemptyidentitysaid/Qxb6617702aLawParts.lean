import Derived.Test.Qxb6617702aQuiet
import Derived.Shelf.Abstract
namespace Go.Proofs.Qxb6617702a
open Go.RowKit

theorem hid {p : Prop} (h : p) : Hid p := h

/-- the three arguments lie in their boxes, the zero array behind them -/
structure Base (w W : World) (fa fb fc : Nat → Int) : Prop where
  old : Below w.heap.size w W
  a : W.heap[w.heap.size]? = some (.cells (arr fa) 22 (0, 0))
  b : W.heap[w.heap.size + 1]? = some (.cells (arr fb) 22 (0, 0))
  c : W.heap[w.heap.size + 1 + 1]? = some (.cells (arr fc) 22 (0, 0))
  z : W.heap[w.heap.size + 1 + 1 + 1]? = some (.cells (arr fun _ => 0) 22 (0, 0))

section
variable {w W W' : World} {fa fb fc : Nat → Int}

theorem Base.lt (h : Base w W fa fb fc) : w.heap.size + 1 + 1 + 1 < W.heap.size := (Array.getElem?_eq_some_iff.1 h.z).1
theorem Base.below (h : Base w W fa fb fc) (hb : Below W.heap.size W W') : Base w W' fa fb fc := by
  have hl := h.lt
  exact ⟨h.old.trans (hb.mono h.old.size), (hb.block _ (by omega)).trans h.a, (hb.block _ (by omega)).trans h.b, (hb.block _ (by omega)).trans h.c, (hb.block _ (by omega)).trans h.z⟩
theorem Base.puts (h : Base w W fa fb fc) {g : Nat} {f : Nat → Int} {n : Int} (hp : Puts g f n W W') (hg : w.heap.size + 1 + 1 + 1 < g) : Base w W' fa fb fc := by
  refine ⟨h.old.trans ⟨hp.os, hp.tape, hp.output, by rw [hp.size]; exact Nat.le_refl _, fun k hk => hp.same k (by omega)⟩, (hp.same _ (by omega)).trans h.a, (hp.same _ (by omega)).trans h.b, (hp.same _ (by omega)).trans h.c, (hp.same _ (by omega)).trans h.z⟩
end

theorem heap_new (V : World) (o : Obj) (m : Nat) (hm : m = V.heap.size) : (V.alloc o).heap[m]? = some o := by subst hm; exact heap_alloc_new V o

theorem four (w : World) (A B C Z : Array Value) :
    Below w.heap.size w ((((w.alloc (.cells A 22)).alloc (.cells B 22)).alloc (.cells C 22)).alloc (.cells Z 22)) ∧
    ((((w.alloc (.cells A 22)).alloc (.cells B 22)).alloc (.cells C 22)).alloc (.cells Z 22)).heap[w.heap.size]? = some (.cells A 22 (0, 0)) ∧
    ((((w.alloc (.cells A 22)).alloc (.cells B 22)).alloc (.cells C 22)).alloc (.cells Z 22)).heap[w.heap.size + 1]? = some (.cells B 22 (0, 0)) ∧
    ((((w.alloc (.cells A 22)).alloc (.cells B 22)).alloc (.cells C 22)).alloc (.cells Z 22)).heap[w.heap.size + 1 + 1]? = some (.cells C 22 (0, 0)) ∧
    ((((w.alloc (.cells A 22)).alloc (.cells B 22)).alloc (.cells C 22)).alloc (.cells Z 22)).heap[w.heap.size + 1 + 1 + 1]? = some (.cells Z 22 (0, 0)) := by
  refine ⟨((((Below.refl _ w).alloc (Nat.le_refl _) _).alloc (by simp) _).alloc (by simp; omega) _).alloc (by simp; omega) _, ?_, ?_, ?_, ?_⟩
  · rw [Below.heap_alloc _ _ _ (by simp; omega), Below.heap_alloc _ _ _ (by simp; omega), Below.heap_alloc _ _ _ (by simp)]
    exact heap_new _ _ _ rfl
  · rw [Below.heap_alloc _ _ _ (by simp), Below.heap_alloc _ _ _ (by simp)]
    refine heap_new _ _ _ ?_; simp
  · rw [Below.heap_alloc _ _ _ (by simp)]
    refine heap_new _ _ _ ?_; simp
  · refine heap_new _ _ _ ?_; simp

theorem base0 (w : World) (fa fb fc : Nat → Int) : Base w ((((w.alloc (.cells (arr fa) 22)).alloc (.cells (arr fb) 22)).alloc (.cells (arr fc) 22)).alloc (.cells (arr fun _ => 0) 22)) fa fb fc :=
  have h := four w (arr fa) (arr fb) (arr fc) (arr fun _ => 0)
  ⟨h.1, h.2.1, h.2.2.1, h.2.2.2.1, h.2.2.2.2⟩

/-- ZZMakeLatencies, told by what it leaves -/
theorem mk (f : Nat → Int) (n : Int) (W : World) :
    Calls Try.prog 4 #[.agg (arr f), .int .i64 n] W fun e W' => ∃ g, e = .returned (.pointer (some ⟨g, 0, none⟩)) ∧ W.heap.size ≤ g ∧ Lat W' g f n ∧ Below W.heap.size W W' := by
  refine (make f n W).mono ?_
  rintro e W' ⟨rfl, rfl⟩
  refine ⟨W.heap.size + 1, rfl, by omega, ?_, ?_⟩
  · unfold Lat
    generalize lat f n = L
    exact heap_alloc2_new W _ _
  · exact ((Below.refl _ W).alloc (Nat.le_refl _) _).alloc (by simp) _

theorem enters6 (args : Array Value) (W : World) : (callFunc 6 args).run Try.prog W = .ok (.enter 6 args) W := enters_of Try.func6 (by kernel_rfl) rfl args W
theorem enters7 (args : Array Value) (W : World) : (callFunc 7 args).run Try.prog W = .ok (.enter 7 args) W := enters_of Try.func7 (by kernel_rfl) rfl args W

/-- in every world grown from W the calls and the load answer alike -/
theorem cls6 {W : World} {g : Nat} {f : Nat → Int} {n : Int} (h : Lat W g f n) : ∀ V, Below W.heap.size W V → Calls Try.prog 6 #[.pointer (some ⟨g, 0, none⟩)] V fun e V' => e = .returned (.agg (arr f)) ∧ Below W.heap.size W V' :=
  fun V hV => (counts g f n V (h.below hV)).mono fun _ _ ⟨he, hb⟩ => ⟨he, hV.trans (hb.mono hV.size)⟩
theorem cls7 {W : World} {g : Nat} {f : Nat → Int} {n : Int} (h : Lat W g f n) : ∀ V, Below W.heap.size W V → Calls Try.prog 7 #[.pointer (some ⟨g, 0, none⟩)] V fun e V' => e = .returned (.int .i64 n) ∧ Below W.heap.size W V' :=
  fun V hV => (theN g f n V (h.below hV)).mono fun _ _ ⟨he, hb⟩ => ⟨he, by rw [hb]; exact hV⟩
theorem clsLoad {W : World} {g : Nat} {f : Nat → Int} (h : W.heap[g]? = some (.cells (arr f) 22 (0, 0))) : ∀ V, Below W.heap.size W V → (loadVar 22 ⟨g, 0, none⟩).run Try.prog V = .ok (.agg (arr f)) V :=
  fun V hV => run_load22 V g (arr f) 22 (0, 0) f ((hV.block g (Array.getElem?_eq_some_iff.1 h).1).trans h) (arr_get f)

theorem region_quiet {id : Nat} {Q : Exit → Act → World → Prop} {a : Act} {W : World} {l : List Oper} (hB : Region.lexB .any l.toArray = true)
    (h : wpQuiet Try.prog l.toArray (fun V => Below W.heap.size W V) (fun a' => ∀ V, Below W.heap.size W V → Q .normal a' V) l a) : (Code.region id l.toArray true).wp Try.prog Q a W :=
  wp_region_quiet (C := fun V => Below W.heap.size W V) (by kernel_rfl) hB ⟨rfl, rfl, rfl, Nat.le_refl _, fun _ _ => rfl⟩ (by simpa using h)
end Go.Proofs.Qxb6617702a
