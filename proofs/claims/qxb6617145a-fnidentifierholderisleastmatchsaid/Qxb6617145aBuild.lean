import Derived.Test.Qxb6617145aBuildParts
namespace Go.Proofs.Qxb6617145a
open Go.RowKit

set_option maxHeartbeats 1000000 in
set_option maxRecDepth 100000 in
theorem build (b off n c : Nat) (nm : Nat → ByteArray) (ro : Option Addr) (rn rc : Nat) (rt : Nat → ByteArray) (ho : Option Addr) (hn hc : Nat) (hr : Nat → Bool) (hp hs : Bool) (rT : ByteArray) (w : World)
    (hbig : n ≤ 1048576) (hcN : ∀ i, i < n → w.cell? ⟨b, off + i, none⟩ = some (.string (nm i))) (hcr : CellsAt w ro rn (fun i => .string (rt i))) (hch : CellsAt w ho hn (fun i => .bool (hr i))) :
    Calls Try.prog 6 #[.slice (some ⟨b, off, none⟩) n c, .slice ro rn rc, .slice ho hn hc, .bool hp, .bool hs, .string rT] w fun e w' =>
      e = .returned (.tuple #[.pointer (some ⟨qOf w.heap.size (hRef hn hr) n + 1, 0, none⟩), .slice (some ⟨w.heap.size, 0, none⟩) n n]) ∧
      Mem w' w.heap.size n (qOf w.heap.size (hRef hn hr)) nm (hRef hn hr) (rAt rn rt) (qOf w.heap.size (hRef hn hr) n) (qOf w.heap.size (hRef hn hr) n + 1) hp hs rT ∧ Below w.heap.size w w' := by
  go_enter Try.func6, Try.ntmps6
  go_wp2_with (at_make; refine wpList_make_at _ rfl _ _ rfl _ _ n rfl rfl rfl rfl hbig ?_)
  go_wp2
  go_loopw [15] (fun i wr => ∃ k : Nat, k ≤ n ∧ i = .int .i64 k ∧ Built w wr w.heap.size n k nm (hRef hn hr) (rAt rn rt)) (fun i _ => n - (intOf i).toNat)
  case atStart => exact ⟨0, Nat.zero_le _, rfl, built_zero w n nm _ _⟩
  case round =>
    obtain ⟨k, hk, rfl, hB⟩ := hrel
    have hsz := hB.old.size
    have hgt : w.heap.size < wr.heap.size := by rw [hB.size]; exact qOf_gt _ _ _
    by_cases hlt : k < n
    · have c1 : wr.cell? ⟨b, off + k, none⟩ = some (.string (nm k)) := cell_below hB.old (hcN k hlt)
      have c2 : wr.cell? ⟨w.heap.size, k, none⟩ = some (.pointer none) := by have := hB.row k hlt; rw [if_neg (Nat.lt_irrefl k)] at this; exact this
      have c3 := hB.free k
      have h10 : Hid (∀ W : World, Below w.heap.size w W → Calls Try.prog 10 #[.slice ro rn rc, .int .i64 k] W fun e w' => e = .returned (.string (rAt rn rt k)) ∧ w' = W) := fun W hW => refAt ro rn rc rt k W (hcr.below hW)
      have HN := hid hcN
      have HB := hid hB
      cases hh : hRef hn hr k with
      | true =>
        have h9 : Hid (∀ W : World, Below w.heap.size w W → Calls Try.prog 9 #[.slice ho hn hc, .int .i64 k] W fun e w' => e = .returned (.bool true) ∧ w' = W) := fun W hW => by
          have := hasRef ho hn hc hr k W (hch.below hW)
          rw [hh] at this; exact this
        have HH := hid hh
        clear hcN hcr hch hB hh
        go_wp2_with fail
        refine (h9.out _ (HB.out.old.alloc hsz _)).mono ?_
        rintro e w1 ⟨rfl, rfl⟩
        go_wp2_with fail
        refine (h10.out _ (HB.out.old.alloc hsz _)).mono ?_
        rintro e w1 ⟨rfl, rfl⟩
        go_wp2_with fail
        go_roundw
        case rel => exact ⟨k + 1, by omega, by go_num, built_two HB.out hlt HH.out⟩
        case measure => simp [intOf]; omega
      | false =>
        have h9 : Hid (∀ W : World, Below w.heap.size w W → Calls Try.prog 9 #[.slice ho hn hc, .int .i64 k] W fun e w' => e = .returned (.bool false) ∧ w' = W) := fun W hW => by
          have := hasRef ho hn hc hr k W (hch.below hW)
          rw [hh] at this; exact this
        have HH := hid hh
        clear hcN hcr hch hB hh h10
        go_wp2_with fail
        refine (h9.out _ (HB.out.old.alloc hsz _)).mono ?_
        rintro e w1 ⟨rfl, rfl⟩
        go_wp2_with fail
        go_roundw
        case rel => exact ⟨k + 1, by omega, by go_num, built_one HB.out hlt HH.out⟩
        case measure => simp [intOf]; omega
    · have hkn : k = n := by omega
      subst hkn
      have HB := hid hB
      clear hB hcN hcr hch
      cases hp with
      | false =>
        go_wp2
        go_ret2
        have hb1 : ∀ o, Below wr.heap.size wr (wr.alloc o) := fun o => (Below.refl _ wr).alloc (Nat.le_refl _) o
        have hb2 : ∀ o p, Below wr.heap.size wr ((wr.alloc o).alloc p) := fun o p => (hb1 o).alloc (by simp) p
        refine ⟨by rw [← HB.out.size]; rfl, mem_of HB.out (hb2 _ _) ?_ ?_ (Or.inl ⟨rfl, ?_⟩), HB.out.old.trans ((hb2 _ _).mono hsz)⟩
        · exact cell_keep (cell_new _ _ _ _ _ _ rfl rfl) _
        · exact cell_new _ _ _ _ _ _ (by simp) rfl
        · exact cell_new _ _ _ _ _ _ (by simp) rfl
      | true =>
        cases hs with
        | false =>
          go_wp2
          go_ret2
          have hb1 : ∀ o, Below wr.heap.size wr (wr.alloc o) := fun o => (Below.refl _ wr).alloc (Nat.le_refl _) o
          have hb2 : ∀ o p, Below wr.heap.size wr ((wr.alloc o).alloc p) := fun o p => (hb1 o).alloc (by simp) p
          have hb3 : ∀ o p q, Below wr.heap.size wr (((wr.alloc o).alloc p).alloc q) := fun o p q => (hb2 o p).alloc (by simp; omega) q
          refine ⟨by rw [← HB.out.size]; rfl, mem_of HB.out (hb3 _ _ _) ?_ ?_ (Or.inr ⟨rfl, wr.heap.size + 1 + 1, ?_, Or.inl ⟨rfl, ?_⟩⟩), HB.out.old.trans ((hb3 _ _ _).mono hsz)⟩
          · exact cell_keep (cell_keep (cell_new _ _ _ _ _ _ rfl rfl) _) _
          · exact cell_keep (cell_new _ _ _ _ _ _ (by simp) rfl) _
          · exact cell_keep (cell_new _ _ _ _ _ _ (by simp) rfl) _
          · exact cell_new _ _ _ _ _ _ (by simp) rfl
        | true =>
          go_wp2
          go_ret2
          have hb1 : ∀ o, Below wr.heap.size wr (wr.alloc o) := fun o => (Below.refl _ wr).alloc (Nat.le_refl _) o
          have hb2 : ∀ o p, Below wr.heap.size wr ((wr.alloc o).alloc p) := fun o p => (hb1 o).alloc (by simp) p
          have hb3 : ∀ o p q, Below wr.heap.size wr (((wr.alloc o).alloc p).alloc q) := fun o p q => (hb2 o p).alloc (by simp; omega) q
          have hb4 : ∀ o p q r, Below wr.heap.size wr ((((wr.alloc o).alloc p).alloc q).alloc r) := fun o p q r => (hb3 o p q).alloc (by simp; omega) r
          refine ⟨by rw [← HB.out.size]; rfl, mem_of HB.out (hb4 _ _ _ _) ?_ ?_ (Or.inr ⟨rfl, wr.heap.size + 1 + 1, ?_, Or.inr ⟨rfl, wr.heap.size + 1 + 1 + 1, ?_, ?_⟩⟩), HB.out.old.trans ((hb4 _ _ _ _).mono hsz)⟩
          · exact cell_keep (cell_keep (cell_keep (cell_new _ _ _ _ _ _ rfl rfl) _) _) _
          · exact cell_keep (cell_keep (cell_new _ _ _ _ _ _ (by simp) rfl) _) _
          · exact cell_keep (cell_keep (cell_new _ _ _ _ _ _ (by simp) rfl) _) _
          · exact cell_keep (cell_new _ _ _ _ _ _ (by simp) rfl) _
          · exact cell_new _ _ _ _ _ _ (by simp) rfl
end Go.Proofs.Qxb6617145a
