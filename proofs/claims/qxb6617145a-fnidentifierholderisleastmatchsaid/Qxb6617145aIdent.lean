import Derived.Test.Qxb6617145aHolder
namespace Go.Proofs.Qxb6617145a
open Go.RowKit

/-- what lies in memory behind zzIHBuild -/
structure Mem (w : World) (B n : Nat) (q : Nat → Nat) (nm : Nat → ByteArray) (hR : Nat → Bool) (rv : Nat → ByteArray) (mq mm : Nat) (hp hs : Bool) (rT : ByteArray) : Prop where
  row : ∀ i, i < n → w.cell? ⟨B, i, none⟩ = some (.pointer (some ⟨q i, 0, none⟩))
  name : ∀ i, i < n → w.cell? ⟨q i, 0, none⟩ = some (.string (nm i))
  ref : ∀ i, i < n → (hR i = false ∧ w.cell? ⟨q i, 7, none⟩ = some (.pointer none)) ∨ (hR i = true ∧ ∃ r, w.cell? ⟨q i, 7, none⟩ = some (.pointer (some ⟨r, 0, none⟩)) ∧ w.cell? ⟨r, 0, none⟩ = some (.string (rv i)))
  blk : ∀ i, i < n → ∃ cs, w.heap[q i]? = some (.cells cs 38 (0, 0))
  fields : w.cell? ⟨mq, 5, none⟩ = some (.slice (some ⟨B, 0, none⟩) n n)
  req : w.cell? ⟨mm, 6, none⟩ = some (.pointer (some ⟨mq, 0, none⟩))
  resp : (hp = false ∧ w.cell? ⟨mm, 7, none⟩ = some (.pointer none)) ∨ (hp = true ∧ ∃ rs, w.cell? ⟨mm, 7, none⟩ = some (.pointer (some ⟨rs, 0, none⟩)) ∧
    ((hs = false ∧ w.cell? ⟨rs, 4, none⟩ = some (.pointer none)) ∨ (hs = true ∧ ∃ re, w.cell? ⟨rs, 4, none⟩ = some (.pointer (some ⟨re, 0, none⟩)) ∧ w.cell? ⟨re, 0, none⟩ = some (.string rT))))

section
variable {w : World} {B n : Nat} {q : Nat → Nat} {nm : Nat → ByteArray} {hR : Nat → Bool} {rv : Nat → ByteArray} {mq mm : Nat} {hp hs : Bool} {rT : ByteArray}

theorem Mem.below (h : Mem w B n q nm hR rv mq mm hp hs rT) {w' : World} (hb : Below w.heap.size w w') : Mem w' B n q nm hR rv mq mm hp hs rT where
  row := fun i hi => cell_below hb (h.row i hi)
  name := fun i hi => cell_below hb (h.name i hi)
  ref := fun i hi => by
    rcases h.ref i hi with ⟨a, b⟩ | ⟨a, r, b, c⟩
    · exact Or.inl ⟨a, cell_below hb b⟩
    · exact Or.inr ⟨a, r, cell_below hb b, cell_below hb c⟩
  blk := fun i hi => by
    obtain ⟨cs, h'⟩ := h.blk i hi
    exact ⟨cs, (hb.block _ (Array.getElem?_eq_some_iff.1 h').1).trans h'⟩
  fields := cell_below hb h.fields
  req := cell_below hb h.req
  resp := by
    rcases h.resp with ⟨a, b⟩ | ⟨a, rs, b, ⟨c, d⟩ | ⟨c, re, d, e⟩⟩
    · exact Or.inl ⟨a, cell_below hb b⟩
    · exact Or.inr ⟨a, rs, cell_below hb b, Or.inl ⟨c, cell_below hb d⟩⟩
    · exact Or.inr ⟨a, rs, cell_below hb b, Or.inr ⟨c, re, cell_below hb d, cell_below hb e⟩⟩

/-- by name: found -/
theorem ident_name (id : ByteArray) (k : Nat) (h : Mem w B n q nm hR rv mq mm hp hs rT) (hn : n ≤ 1048576) (hk : k < n) (hx : idxOf (fun i => eqS (nm i) id) n = k) :
    Calls Try.prog 11 #[.pointer (some ⟨mm, 0, none⟩), .string id] w fun e w' => e = .returned (.pointer (some ⟨q k, 0, none⟩)) ∧ Below w.heap.size w w' := by
  have hb0 : Below w.heap.size w (w.alloc (.cells #[.pointer (some ⟨mm, 0, none⟩)] 26)) := (Below.refl _ w).alloc (Nat.le_refl _) _
  have h1 := h.below hb0
  have hf := hid (field_hit mq B n q nm id k _ hn hk h1.fields h1.row h1.name hx)
  have c1 := h1.req
  clear h1 hx
  go_enter Try.func11, Try.ntmps11
  go_wp2_with fail
  refine hf.out.mono ?_
  rintro e w1 ⟨rfl, hb1⟩
  go_wp2
  go_ret
  exact ⟨rfl, hb0.trans (hb1.mono (by simp))⟩

/-- not by name; no resource -/
theorem ident_bare (id : ByteArray) (h : Mem w B n q nm hR rv mq mm hp hs rT) (hn : n ≤ 1048576) (hx : idxOf (fun i => eqS (nm i) id) n = -1) (hps : (hp && hs) = false) :
    Calls Try.prog 11 #[.pointer (some ⟨mm, 0, none⟩), .string id] w fun e w' => e = .returned (.pointer none) ∧ Below w.heap.size w w' := by
  have hb0 : Below w.heap.size w (w.alloc (.cells #[.pointer (some ⟨mm, 0, none⟩)] 26)) := (Below.refl _ w).alloc (Nat.le_refl _) _
  have h1 := h.below hb0
  have hf := hid (field_none mq B n q nm id _ hn h1.fields h1.row h1.name hx)
  have c1 := h1.req
  clear hx
  have hresp : w.cell? ⟨mm, 7, none⟩ = some (.pointer none) ∨ ∃ rs, w.cell? ⟨mm, 7, none⟩ = some (.pointer (some ⟨rs, 0, none⟩)) ∧ w.cell? ⟨rs, 4, none⟩ = some (.pointer none) := by
    rcases h.resp with ⟨a, b⟩ | ⟨a, rs, b, ⟨c, d⟩ | ⟨c, re, d, e⟩⟩
    · exact Or.inl b
    · exact Or.inr ⟨rs, b, d⟩
    · rw [a, c] at hps; simp at hps
  clear hps
  rcases hresp with hr | ⟨rs, hr1, hr2⟩
  · clear h1
    go_enter Try.func11, Try.ntmps11
    go_wp2_with fail
    refine hf.out.mono ?_
    rintro e w1 ⟨rfl, hb1⟩
    have hb2 : Below w.heap.size w w1 := hb0.trans (hb1.mono (by simp))
    have c2 := cell_below hb2 hr
    have c3 : w1.cell? ⟨w.heap.size, 0, none⟩ = some (.pointer (some ⟨mm, 0, none⟩)) := cell_below hb1 (World.cell?_alloc_new _ _ _ _)
    go_wp2
    go_ret
    exact ⟨rfl, hb2⟩
  · clear h1
    go_enter Try.func11, Try.ntmps11
    go_wp2_with fail
    refine hf.out.mono ?_
    rintro e w1 ⟨rfl, hb1⟩
    have hb2 : Below w.heap.size w w1 := hb0.trans (hb1.mono (by simp))
    have c2 := cell_below hb2 hr1
    have c2' := cell_below hb2 hr2
    have c3 : w1.cell? ⟨w.heap.size, 0, none⟩ = some (.pointer (some ⟨mm, 0, none⟩)) := cell_below hb1 (World.cell?_alloc_new _ _ _ _)
    go_wp2
    go_ret
    exact ⟨rfl, hb2⟩
end
end Go.Proofs.Qxb6617145a
