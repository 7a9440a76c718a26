import Derived.Test.Qxb6617145aIndex
namespace Go.Proofs.Qxb6617145a
open Go.RowKit

theorem hid {p : Prop} (h : p) : Hid p := h
theorem cell_lt {w : World} {p : Addr} {v : Value} (h : w.cell? p = some v) : p.block < w.heap.size := by
  rcases Nat.lt_or_ge p.block w.heap.size with h' | h'
  · exact h'
  · simp [World.cell?, Array.getElem?_eq_none h'] at h
theorem cell_keep {w : World} {p : Addr} {v : Value} (h : w.cell? p = some v) (o : Obj) : (w.alloc o).cell? p = some v :=
  (((Below.refl w.heap.size w).alloc (Nat.le_refl _) o).cell (cell_lt h)).trans h
theorem cell_below {w w' : World} (hb : Below w.heap.size w w') {p : Addr} {v : Value} (h : w.cell? p = some v) : w'.cell? p = some v :=
  (hb.cell (cell_lt h)).trans h
theorem drewN_below (w : World) (B m : Nat) : Below B w (w.drewN m) := ⟨rfl, rfl, rfl, Nat.le_refl _, fun _ _ => rfl⟩
theorem drewN_cell (w : World) (m : Nat) (p : Addr) : (w.drewN m).cell? p = w.cell? p := rfl

/-- the least yes, if there is one -/
theorem idx_cases (p : Nat → Bool) (n : Nat) : ((∀ j, j < n → p j = false) ∧ idxOf p n = -1) ∨ ∃ k, k < n ∧ p k = true ∧ (∀ j, j < k → p j = false) ∧ idxOf p n = k := by
  by_cases h : ∃ k, k < n ∧ p k = true
  · right
    have key : ∀ m, m ≤ n → (∃ k, k < m ∧ p k = true) → ∃ k, k < n ∧ p k = true ∧ ∀ j, j < k → p j = false := by
      intro m
      induction m with
      | zero => rintro _ ⟨k, hk, _⟩; omega
      | succ m ih =>
        rintro hm ⟨k, hk, hp⟩
        by_cases h2 : ∃ k, k < m ∧ p k = true
        · exact ih (by omega) h2
        · have hk2 : k = m := by
            rcases Nat.lt_or_ge k m with h3 | h3
            · exact absurd ⟨k, h3, hp⟩ h2
            · omega
          subst hk2
          refine ⟨k, by omega, hp, fun j hj => ?_⟩
          cases hpj : p j with
          | false => rfl
          | true => exact absurd ⟨j, hj, hpj⟩ h2
    obtain ⟨k, hk, hp, hno⟩ := key n (Nat.le_refl _) h
    exact ⟨k, hk, hp, hno, idxOf_hit p n k hk hp hno⟩
  · left
    have hno : ∀ j, j < n → p j = false := fun j hj => by
      cases hpj : p j with
      | false => rfl
      | true => exact absurd ⟨j, hj, hpj⟩ h
    exact ⟨hno, idxOf_none p n hno⟩

theorem asks15 (w : World) (q : Nat → Nat) (n : Nat) (nm : Nat → ByteArray) (id : ByteArray) (hname : ∀ i, i < n → w.cell? ⟨q i, 0, none⟩ = some (.string (nm i))) :
    Asks 15 w.heap.size (w.alloc (.cells #[.string id] 9)) q n (fun i => eqS (nm i) id) := by
  intro i hi m
  refine (isName (q i) w.heap.size (nm i) id _ ?_ ?_).mono ?_
  · rw [drewN_cell]; exact cell_keep (hname i hi) _
  · rw [drewN_cell]; exact World.cell?_alloc_new _ _ _ _
  · rintro e w' ⟨rfl, k, rfl⟩
    exact ⟨rfl, m + k, World.drewN_drewN _ _ _⟩

set_option maxHeartbeats 400000 in
theorem field_none (mq B n : Nat) (q : Nat → Nat) (nm : Nat → ByteArray) (id : ByteArray) (w : World) (hn : n ≤ 1048576)
    (hf : w.cell? ⟨mq, 5, none⟩ = some (.slice (some ⟨B, 0, none⟩) n n)) (hrow : ∀ i, i < n → w.cell? ⟨B, i, none⟩ = some (.pointer (some ⟨q i, 0, none⟩)))
    (hname : ∀ i, i < n → w.cell? ⟨q i, 0, none⟩ = some (.string (nm i))) (hno : idxOf (fun i => eqS (nm i) id) n = -1) :
    Calls Try.prog 12 #[.pointer (some ⟨mq, 0, none⟩), .string id] w fun e w' => e = .returned (.pointer none) ∧ Below w.heap.size w w' := by
  have h2 := cell_keep hf (.cells #[.string id] 9)
  have hi := index15 B n w.heap.size q (fun i => eqS (nm i) id) (w.alloc (.cells #[.string id] 9)) hn (fun i hi => cell_keep (hrow i hi) _) (asks15 w q n nm id hname)
  rw [hno] at hi
  have HI := hid hi
  clear hi hno hrow hname
  go_enter Try.func12, Try.ntmps12
  go_wp2_with fail
  refine HI.out.mono ?_
  rintro e w' ⟨rfl, m, rfl⟩
  go_wp2
  go_ret
  exact ⟨rfl, ((Below.refl _ w).alloc (Nat.le_refl _) _).trans (drewN_below _ _ _)⟩

set_option maxHeartbeats 400000 in
theorem field_hit (mq B n : Nat) (q : Nat → Nat) (nm : Nat → ByteArray) (id : ByteArray) (k : Nat) (w : World) (hn : n ≤ 1048576) (hk : k < n)
    (hf : w.cell? ⟨mq, 5, none⟩ = some (.slice (some ⟨B, 0, none⟩) n n)) (hrow : ∀ i, i < n → w.cell? ⟨B, i, none⟩ = some (.pointer (some ⟨q i, 0, none⟩)))
    (hname : ∀ i, i < n → w.cell? ⟨q i, 0, none⟩ = some (.string (nm i))) (hno : idxOf (fun i => eqS (nm i) id) n = k) :
    Calls Try.prog 12 #[.pointer (some ⟨mq, 0, none⟩), .string id] w fun e w' => e = .returned (.pointer (some ⟨q k, 0, none⟩)) ∧ Below w.heap.size w w' := by
  have h2 := cell_keep hf (.cells #[.string id] 9)
  have hi := index15 B n w.heap.size q (fun i => eqS (nm i) id) (w.alloc (.cells #[.string id] 9)) hn (fun i hi => cell_keep (hrow i hi) _) (asks15 w q n nm id hname)
  rw [hno] at hi
  have h3 := cell_keep (hrow k hk) (.cells #[.string id] 9)
  have HI := hid hi
  clear hi hno hrow hname
  go_enter Try.func12, Try.ntmps12
  go_wp2_with fail
  refine HI.out.mono ?_
  rintro e w' ⟨rfl, m, rfl⟩
  go_wp2
  go_ret
  exact ⟨rfl, ((Below.refl _ w).alloc (Nat.le_refl _) _).trans (drewN_below _ _ _)⟩
end Go.Proofs.Qxb6617145a
