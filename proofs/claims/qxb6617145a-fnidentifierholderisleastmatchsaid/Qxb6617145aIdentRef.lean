import Derived.Test.Qxb6617145aIdent
namespace Go.Proofs.Qxb6617145a
open Go.RowKit
section
variable {w : World} {B n : Nat} {q : Nat → Nat} {nm : Nat → ByteArray} {hR : Nat → Bool} {rv : Nat → ByteArray} {mq mm : Nat} {hp hs : Bool} {rT : ByteArray}

theorem asks14 (cp rs re : Nat) (h : Mem w B n q nm hR rv mq mm hp hs rT) (h3 : w.cell? ⟨cp, 0, none⟩ = some (.pointer (some ⟨mm, 0, none⟩)))
    (h4 : w.cell? ⟨mm, 7, none⟩ = some (.pointer (some ⟨rs, 0, none⟩))) (h5 : w.cell? ⟨rs, 4, none⟩ = some (.pointer (some ⟨re, 0, none⟩))) (h6 : w.cell? ⟨re, 0, none⟩ = some (.string rT)) :
    Asks 14 cp w q n (fun i => hR i && eqS (rv i) rT) := by
  intro i hi m
  rcases h.ref i hi with ⟨a, b⟩ | ⟨a, r, b, c⟩
  · refine (isRef_nil (q i) cp _ (by rw [drewN_cell]; exact b)).mono ?_
    rintro e w' ⟨rfl, k, rfl⟩
    refine ⟨?_, m + k, World.drewN_drewN _ _ _⟩
    simp [a]
  · refine (isRef_some (q i) cp r mm rs re (rv i) rT _ (by rw [drewN_cell]; exact b) (by rw [drewN_cell]; exact c) (by rw [drewN_cell]; exact h3) (by rw [drewN_cell]; exact h4) (by rw [drewN_cell]; exact h5) (by rw [drewN_cell]; exact h6)).mono ?_
    rintro e w' ⟨rfl, k, rfl⟩
    refine ⟨?_, m + k, World.drewN_drewN _ _ _⟩
    simp [a]

/-- not by name; by reference: none -/
theorem ident_refNone (id : ByteArray) (h : Mem w B n q nm hR rv mq mm true true rT) (hn : n ≤ 1048576) (hx : idxOf (fun i => eqS (nm i) id) n = -1) (hy : idxOf (fun i => hR i && eqS (rv i) rT) n = -1) :
    Calls Try.prog 11 #[.pointer (some ⟨mm, 0, none⟩), .string id] w fun e w' => e = .returned (.pointer none) ∧ Below w.heap.size w w' := by
  have hb0 : Below w.heap.size w (w.alloc (.cells #[.pointer (some ⟨mm, 0, none⟩)] 26)) := (Below.refl _ w).alloc (Nat.le_refl _) _
  have h1 := h.below hb0
  have hf := hid (field_none mq B n q nm id _ hn h1.fields h1.row h1.name hx)
  have c1 := h1.req
  clear hx h1
  obtain ⟨rs, re, r1, r2, r3⟩ : ∃ rs re, w.cell? ⟨mm, 7, none⟩ = some (.pointer (some ⟨rs, 0, none⟩)) ∧ w.cell? ⟨rs, 4, none⟩ = some (.pointer (some ⟨re, 0, none⟩)) ∧ w.cell? ⟨re, 0, none⟩ = some (.string rT) := by
    rcases h.resp with ⟨a, b⟩ | ⟨a, rs, b, ⟨c, d⟩ | ⟨c, re, d, e⟩⟩
    · simp at a
    · simp at c
    · exact ⟨rs, re, b, d, e⟩
  have HY := hid hy
  clear hy
  go_enter Try.func11, Try.ntmps11
  go_wp2_with fail
  refine hf.out.mono ?_
  rintro e w1 ⟨rfl, hb1⟩
  have hb2 : Below w.heap.size w w1 := hb0.trans (hb1.mono (by simp))
  have c2 := cell_below hb2 r1
  have c2' := cell_below hb2 r2
  have c2'' := cell_below hb2 r3
  have c3 : w1.cell? ⟨w.heap.size, 0, none⟩ = some (.pointer (some ⟨mm, 0, none⟩)) := cell_below hb1 (World.cell?_alloc_new _ _ _ _)
  have c4 := cell_below hb2 h.req
  have c5 := cell_below hb2 h.fields
  have hi := index14 B n w.heap.size q (fun i => hR i && eqS (rv i) rT) w1 hn (h.below hb2).row (asks14 w.heap.size rs re (h.below hb2) c3 c2 c2' c2'')
  rw [HY.out] at hi
  have HI := hid hi
  clear hi hf
  go_wp2_with fail
  refine HI.out.mono ?_
  rintro e w2 ⟨rfl, m, rfl⟩
  go_wp2
  go_ret
  exact ⟨rfl, hb2.trans (drewN_below _ _ _)⟩

/-- not by name; by reference: found -/
theorem ident_refHit (id : ByteArray) (k : Nat) (h : Mem w B n q nm hR rv mq mm true true rT) (hn : n ≤ 1048576) (hk : k < n) (hx : idxOf (fun i => eqS (nm i) id) n = -1) (hy : idxOf (fun i => hR i && eqS (rv i) rT) n = k) :
    Calls Try.prog 11 #[.pointer (some ⟨mm, 0, none⟩), .string id] w fun e w' => e = .returned (.pointer (some ⟨q k, 0, none⟩)) ∧ Below w.heap.size w w' := by
  have hb0 : Below w.heap.size w (w.alloc (.cells #[.pointer (some ⟨mm, 0, none⟩)] 26)) := (Below.refl _ w).alloc (Nat.le_refl _) _
  have h1 := h.below hb0
  have hf := hid (field_none mq B n q nm id _ hn h1.fields h1.row h1.name hx)
  have c1 := h1.req
  clear hx h1
  obtain ⟨rs, re, r1, r2, r3⟩ : ∃ rs re, w.cell? ⟨mm, 7, none⟩ = some (.pointer (some ⟨rs, 0, none⟩)) ∧ w.cell? ⟨rs, 4, none⟩ = some (.pointer (some ⟨re, 0, none⟩)) ∧ w.cell? ⟨re, 0, none⟩ = some (.string rT) := by
    rcases h.resp with ⟨a, b⟩ | ⟨a, rs, b, ⟨c, d⟩ | ⟨c, re, d, e⟩⟩
    · simp at a
    · simp at c
    · exact ⟨rs, re, b, d, e⟩
  have HY := hid hy
  clear hy
  go_enter Try.func11, Try.ntmps11
  go_wp2_with fail
  refine hf.out.mono ?_
  rintro e w1 ⟨rfl, hb1⟩
  have hb2 : Below w.heap.size w w1 := hb0.trans (hb1.mono (by simp))
  have c2 := cell_below hb2 r1
  have c2' := cell_below hb2 r2
  have c2'' := cell_below hb2 r3
  have c3 : w1.cell? ⟨w.heap.size, 0, none⟩ = some (.pointer (some ⟨mm, 0, none⟩)) := cell_below hb1 (World.cell?_alloc_new _ _ _ _)
  have c4 := cell_below hb2 h.req
  have c5 := cell_below hb2 h.fields
  have c6 := cell_below hb2 (h.row k hk)
  have hi := index14 B n w.heap.size q (fun i => hR i && eqS (rv i) rT) w1 hn (h.below hb2).row (asks14 w.heap.size rs re (h.below hb2) c3 c2 c2' c2'')
  rw [HY.out] at hi
  have HI := hid hi
  clear hi hf
  go_wp2_with fail
  refine HI.out.mono ?_
  rintro e w2 ⟨rfl, m, rfl⟩
  go_wp2
  go_ret
  exact ⟨rfl, hb2.trans (drewN_below _ _ _)⟩

/-- function 7 hands on -/
theorem zzIdent (id : ByteArray) (v : Value) (h : Calls Try.prog 11 #[.pointer (some ⟨mm, 0, none⟩), .string id] w fun e w' => e = .returned v ∧ Below w.heap.size w w') :
    Calls Try.prog 7 #[.pointer (some ⟨mm, 0, none⟩), .string id] w fun e w' => e = .returned v ∧ Below w.heap.size w w' := by
  have H := hid h
  clear h
  go_enter Try.func7, Try.ntmps7
  go_wp2_with fail
  refine H.out.mono ?_
  rintro e w1 ⟨rfl, hb1⟩
  go_wp2
  go_ret
  exact ⟨rfl, hb1⟩

/-- zzIHRefMatches at i -/
def mtc (hp hs : Bool) (hR : Nat → Bool) (rv : Nat → ByteArray) (rT : ByteArray) (i : Nat) : Bool := hp && hs && hR i && eqS (rv i) rT

/-- what identifierHolder answers -/
theorem zzIdent_cases (id : ByteArray) (h : Mem w B n q nm hR rv mq mm hp hs rT) (hn : n ≤ 1048576) :
    (∃ k, k < n ∧ eqS (nm k) id = true ∧ (∀ j, j < k → eqS (nm j) id = false) ∧ Calls Try.prog 7 #[.pointer (some ⟨mm, 0, none⟩), .string id] w fun e w' => e = .returned (.pointer (some ⟨q k, 0, none⟩)) ∧ Below w.heap.size w w') ∨
    ((∀ j, j < n → eqS (nm j) id = false) ∧ (∀ j, j < n → mtc hp hs hR rv rT j = false) ∧ Calls Try.prog 7 #[.pointer (some ⟨mm, 0, none⟩), .string id] w fun e w' => e = .returned (.pointer none) ∧ Below w.heap.size w w') ∨
    ((∀ j, j < n → eqS (nm j) id = false) ∧ ∃ k, k < n ∧ mtc hp hs hR rv rT k = true ∧ (∀ j, j < k → mtc hp hs hR rv rT j = false) ∧ Calls Try.prog 7 #[.pointer (some ⟨mm, 0, none⟩), .string id] w fun e w' => e = .returned (.pointer (some ⟨q k, 0, none⟩)) ∧ Below w.heap.size w w') := by
  rcases idx_cases (fun i => eqS (nm i) id) n with ⟨hno, hx⟩ | ⟨k, hk, hp1, hno, hx⟩
  · right
    by_cases hps : (hp && hs) = true
    · obtain ⟨rfl, rfl⟩ : hp = true ∧ hs = true := by simpa using hps
      have em : mtc true true hR rv rT = fun i => hR i && eqS (rv i) rT := by funext i; simp [mtc]
      rw [em]
      rcases idx_cases (fun i => hR i && eqS (rv i) rT) n with ⟨hno2, hy⟩ | ⟨k, hk, hp2, hno2, hy⟩
      · exact Or.inl ⟨hno, hno2, zzIdent id _ (ident_refNone id h hn hx hy)⟩
      · exact Or.inr ⟨hno, k, hk, hp2, hno2, zzIdent id _ (ident_refHit id k h hn hk hx hy)⟩
    · have hps' : (hp && hs) = false := by simpa using hps
      exact Or.inl ⟨hno, fun j _ => by simp [mtc, hps'], zzIdent id _ (ident_bare id h hn hx hps')⟩
  · exact Or.inl ⟨k, hk, hp1, hno, zzIdent id _ (ident_name id k h hn hk hx)⟩
end
end Go.Proofs.Qxb6617145a
