import Derived.Test.Qxb6617145aBuild
namespace Go.Proofs.Qxb6617145a
open Go.RowKit

set_option maxHeartbeats 1000000 in
set_option maxRecDepth 100000 in
theorem build0 (ao : Option Addr) (c : Nat) (nm : Nat → ByteArray) (ro : Option Addr) (rn rc : Nat) (rt : Nat → ByteArray) (ho : Option Addr) (hn hc : Nat) (hr : Nat → Bool) (hp hs : Bool) (rT : ByteArray) (w : World)
    :
    Calls Try.prog 6 #[.slice ao 0 c, .slice ro rn rc, .slice ho hn hc, .bool hp, .bool hs, .string rT] w fun e w' =>
      e = .returned (.tuple #[.pointer (some ⟨qOf w.heap.size (hRef hn hr) 0 + 1, 0, none⟩), .slice (some ⟨w.heap.size, 0, none⟩) 0 0]) ∧
      Mem w' w.heap.size 0 (qOf w.heap.size (hRef hn hr)) nm (hRef hn hr) (rAt rn rt) (qOf w.heap.size (hRef hn hr) 0) (qOf w.heap.size (hRef hn hr) 0 + 1) hp hs rT ∧ Below w.heap.size w w' := by
  go_enter Try.func6, Try.ntmps6
  go_wp2_with (at_make; refine wpList_make_at _ rfl _ _ rfl _ _ 0 rfl rfl rfl rfl (by omega) ?_)
  go_wp2
  go_loopw [15] (fun i wr => ∃ k : Nat, k ≤ 0 ∧ i = .int .i64 k ∧ Built w wr w.heap.size 0 k nm (hRef hn hr) (rAt rn rt)) (fun i _ => 0 - (intOf i).toNat)
  case atStart => exact ⟨0, Nat.zero_le _, rfl, built_zero w 0 nm _ _⟩
  case round =>
    obtain ⟨k, hk, rfl, hB⟩ := hrel
    have hsz := hB.old.size
    have hgt : w.heap.size < wr.heap.size := by rw [hB.size]; exact qOf_gt _ _ _
    · have hkn : k = 0 := by omega
      subst hkn
      have HB := hid hB
      clear hB
      cases hp with
      | false =>
        go_wp2
        go_ret2
        have hb1 : ∀ o, Below wr.heap.size wr (wr.alloc o) := fun o => (Below.refl _ wr).alloc (Nat.le_refl _) o
        have hb2 : ∀ o p, Below wr.heap.size wr ((wr.alloc o).alloc p) := fun o p => (hb1 o).alloc (by simp) p
        refine ⟨by rw [← HB.out.size]; rfl, mem_of HB.out (hb2 _ _) ?_ ?_ (Or.inl ⟨rfl, ?_⟩), HB.out.old.trans ((hb2 _ _).mono hsz)⟩
        · exact cell_keep (cell_new _ _ _ _ _ _ rfl rfl) _
        · exact cell_new _ _ _ _ _ _ (by simp) rfl
        · exact cell_new _ _ _ _ _ _ (by simp) rfl
      | true =>
        cases hs with
        | false =>
          go_wp2
          go_ret2
          have hb1 : ∀ o, Below wr.heap.size wr (wr.alloc o) := fun o => (Below.refl _ wr).alloc (Nat.le_refl _) o
          have hb2 : ∀ o p, Below wr.heap.size wr ((wr.alloc o).alloc p) := fun o p => (hb1 o).alloc (by simp) p
          have hb3 : ∀ o p q, Below wr.heap.size wr (((wr.alloc o).alloc p).alloc q) := fun o p q => (hb2 o p).alloc (by simp; omega) q
          refine ⟨by rw [← HB.out.size]; rfl, mem_of HB.out (hb3 _ _ _) ?_ ?_ (Or.inr ⟨rfl, wr.heap.size + 1 + 1, ?_, Or.inl ⟨rfl, ?_⟩⟩), HB.out.old.trans ((hb3 _ _ _).mono hsz)⟩
          · exact cell_keep (cell_keep (cell_new _ _ _ _ _ _ rfl rfl) _) _
          · exact cell_keep (cell_new _ _ _ _ _ _ (by simp) rfl) _
          · exact cell_keep (cell_new _ _ _ _ _ _ (by simp) rfl) _
          · exact cell_new _ _ _ _ _ _ (by simp) rfl
        | true =>
          go_wp2
          go_ret2
          have hb1 : ∀ o, Below wr.heap.size wr (wr.alloc o) := fun o => (Below.refl _ wr).alloc (Nat.le_refl _) o
          have hb2 : ∀ o p, Below wr.heap.size wr ((wr.alloc o).alloc p) := fun o p => (hb1 o).alloc (by simp) p
          have hb3 : ∀ o p q, Below wr.heap.size wr (((wr.alloc o).alloc p).alloc q) := fun o p q => (hb2 o p).alloc (by simp; omega) q
          have hb4 : ∀ o p q r, Below wr.heap.size wr ((((wr.alloc o).alloc p).alloc q).alloc r) := fun o p q r => (hb3 o p q).alloc (by simp; omega) r
          refine ⟨by rw [← HB.out.size]; rfl, mem_of HB.out (hb4 _ _ _ _) ?_ ?_ (Or.inr ⟨rfl, wr.heap.size + 1 + 1, ?_, Or.inr ⟨rfl, wr.heap.size + 1 + 1 + 1, ?_, ?_⟩⟩), HB.out.old.trans ((hb4 _ _ _ _).mono hsz)⟩
          · exact cell_keep (cell_keep (cell_keep (cell_new _ _ _ _ _ _ rfl rfl) _) _) _
          · exact cell_keep (cell_keep (cell_new _ _ _ _ _ _ (by simp) rfl) _) _
          · exact cell_keep (cell_keep (cell_new _ _ _ _ _ _ (by simp) rfl) _) _
          · exact cell_keep (cell_new _ _ _ _ _ _ (by simp) rfl) _
          · exact cell_new _ _ _ _ _ _ (by simp) rfl

theorem buildAny (ao : Option Addr) (n c : Nat) (nm : Nat → ByteArray) (ro : Option Addr) (rn rc : Nat) (rt : Nat → ByteArray) (ho : Option Addr) (hn hc : Nat) (hr : Nat → Bool) (hp hs : Bool) (rT : ByteArray) (w : World)
    (hbig : n ≤ 1048576) (hcn : CellsAt w ao n (fun i => .string (nm i))) (hcr : CellsAt w ro rn (fun i => .string (rt i))) (hch : CellsAt w ho hn (fun i => .bool (hr i))) :
    Calls Try.prog 6 #[.slice ao n c, .slice ro rn rc, .slice ho hn hc, .bool hp, .bool hs, .string rT] w fun e w' =>
      e = .returned (.tuple #[.pointer (some ⟨qOf w.heap.size (hRef hn hr) n + 1, 0, none⟩), .slice (some ⟨w.heap.size, 0, none⟩) n n]) ∧
      Mem w' w.heap.size n (qOf w.heap.size (hRef hn hr)) nm (hRef hn hr) (rAt rn rt) (qOf w.heap.size (hRef hn hr) n) (qOf w.heap.size (hRef hn hr) n + 1) hp hs rT ∧ Below w.heap.size w w' := by
  rcases hcn with rfl | ⟨b, off, rfl, hcN⟩
  · exact build0 ao c nm ro rn rc rt ho hn hc hr hp hs rT w
  · exact build b off n c nm ro rn rc rt ho hn hc hr hp hs rT w hbig hcN hcr hch
end Go.Proofs.Qxb6617145a
