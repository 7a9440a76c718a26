import Derived.Test.Qxb6617145aLawParts
namespace Go.Proofs.Qxb6617145a
open Go.RowKit

set_option maxHeartbeats 2000000 in
set_option maxRecDepth 100000 in
theorem law_B (b off n c : Nat) (nm : Nat → ByteArray) (ro : Option Addr) (rn rc : Nat) (rt : Nat → ByteArray) (ho : Option Addr) (hn hc : Nat) (hr : Nat → Bool) (id : ByteArray) (hp hs : Bool) (rT : ByteArray) (w : World)
    (hbig : n ≤ 1048576) (hbr : rn ≤ 9223372036854775807) (hcN : ∀ i, i < n → w.cell? ⟨b, off + i, none⟩ = some (.string (nm i))) (hcr : CellsAt w ro rn (fun i => .string (rt i))) (hch : CellsAt w ho hn (fun i => .bool (hr i)))
    (h1 : Hid (∀ j, j < n → eqS (nm j) id = false)) (h2 : Hid (∀ j, j < n → mtc hp hs (hRef hn hr) (rAt rn rt) rT j = false)) :
    Calls Try.prog 3 #[.slice (some ⟨b, off, none⟩) n c, .slice ro rn rc, .slice ho hn hc, .string id, .bool hp, .bool hs, .string rT] w fun e w' => e = .returned (.bool true) ∧ Below w.heap.size w w' := by
  have hcn : CellsAt w (some ⟨b, off, none⟩) n (fun i => .string (nm i)) := Or.inr ⟨b, off, rfl, hcN⟩
  have g4 := hid (guard4 (some ⟨b, off, none⟩) n c nm ro rn rc rt ho hn hc id hp hs rT w hbig hbr hcn hcr)
  have g5 := hid (guard5 (some ⟨b, off, none⟩) n c nm ro rn rc rt ho hn hc id rT w hcn hcr)
  have g6 := hid (buildAny (some ⟨b, off, none⟩) n c nm ro rn rc rt ho hn hc hr hp hs rT w hbig hcn hcr hch)
  have g8 : Hid (∀ W : World, Below w.heap.size w W → ∀ k : Nat, Calls Try.prog 8 #[.slice ro rn rc, .slice ho hn hc, .bool hp, .bool hs, .string rT, .int .i64 k] W fun e w' => e = .returned (.bool (mtc hp hs (hRef hn hr) (rAt rn rt) rT k)) ∧ w' = W) :=
    fun W hW k => refMatches ro rn rc rt ho hn hc hr hp hs rT k W (hcr.below hW) (hch.below hW)
  clear hcn hcr hch
  have HN := hid hcN
  clear hcN
  go_enter Try.func3, Try.ntmps3
  go_wp2_with fail
  refine g4.out.mono ?_
  rintro e w1 ⟨⟨r, rfl⟩, hw⟩
  obtain rfl := hw.symm
  clear hw
  cases r
  · go_wp2
    go_ret
    exact ⟨rfl, Below.refl _ _⟩
  go_wp2_with fail
  refine g5.out.mono ?_
  rintro e w1 ⟨⟨r, rfl⟩, hw⟩
  obtain rfl := hw.symm
  clear hw
  cases r
  rotate_left
  · go_wp2
    go_ret
    exact ⟨rfl, Below.refl _ _⟩
  go_wp2_with fail
  refine g6.out.mono ?_
  rintro e w1 ⟨rfl, hM, hb1⟩
  go_wp2_with fail
  refine (zz_B id hM hbig h1.out h2.out).mono ?_
  rintro e w2 ⟨rfl, hb2⟩
  have hM2 := hM.below hb2
  have hbw : Below w.heap.size w w2 := hb1.trans (hb2.mono hb1.size)
  have HN2 : Hid (∀ i, i < n → w2.cell? ⟨b, off + i, none⟩ = some (.string (nm i))) := fun i hi => cell_below hbw (HN.out i hi)
  have g8' : Hid (∀ k : Nat, Calls Try.prog 8 #[.slice ro rn rc, .slice ho hn hc, .bool hp, .bool hs, .string rT, .int .i64 k] w2 fun e w' => e = .returned (.bool (mtc hp hs (hRef hn hr) (rAt rn rt) rT k)) ∧ w' = w2) := g8.out w2 hbw
  clear hM hM2 hb1 hb2 g4 g5 g6 HN g8
  go_wp2_with fail
  go_loop [18, 19, 20] (fun z y i => ∃ k : Nat, k ≤ n ∧ i = .int .i64 k ∧ y = .bool false ∧ z = .bool false) (fun _ _ i => n - (intOf i).toNat)
  case atStart => exact ⟨0, Nat.zero_le _, rfl, rfl, rfl⟩
  case round =>
    obtain ⟨k, hk, rfl, rfl, rfl⟩ := hrel
    by_cases hlt : k < n
    · have hcell := HN2.out k hlt
      have hs1 : ((nm k).toList == id.toList) = false := h1.out k hlt
      have g8k := g8'.out k
      rw [h2.out k hlt] at g8k
      have G8K := hid g8k
      clear g8k
      go_wp2_with fail
      refine G8K.out.mono ?_
      rintro e w3 ⟨rfl, hw⟩
      obtain rfl := hw.symm
      clear hw
      go_wp2_with fail
      go_round
      case rel => exact ⟨k + 1, by omega, by go_num, rfl, rfl⟩
      case measure => simp [intOf]; omega
    · go_wp2
      go_ret
      exact ⟨rfl, hbw⟩

set_option maxHeartbeats 2000000 in
set_option maxRecDepth 100000 in
theorem law_0 (ao : Option Addr) (c : Nat) (nm : Nat → ByteArray) (ro : Option Addr) (rn rc : Nat) (rt : Nat → ByteArray) (ho : Option Addr) (hn hc : Nat) (hr : Nat → Bool) (id : ByteArray) (hp hs : Bool) (rT : ByteArray) (w : World)
    (hbr : rn ≤ 9223372036854775807) (hcr : CellsAt w ro rn (fun i => .string (rt i))) (hch : CellsAt w ho hn (fun i => .bool (hr i))) :
    Calls Try.prog 3 #[.slice ao 0 c, .slice ro rn rc, .slice ho hn hc, .string id, .bool hp, .bool hs, .string rT] w fun e w' => e = .returned (.bool true) ∧ Below w.heap.size w w' := by
  have hcn : CellsAt w ao 0 (fun i => .string (nm i)) := Or.inl rfl
  have g4 := hid (guard4 ao 0 c nm ro rn rc rt ho hn hc id hp hs rT w (by omega) hbr hcn hcr)
  have g5 := hid (guard5 ao 0 c nm ro rn rc rt ho hn hc id rT w hcn hcr)
  have g6 := hid (buildAny ao 0 c nm ro rn rc rt ho hn hc hr hp hs rT w (by omega) hcn hcr hch)
  clear hcn hcr hch
  go_enter Try.func3, Try.ntmps3
  go_wp2_with fail
  refine g4.out.mono ?_
  rintro e w1 ⟨⟨r, rfl⟩, hw⟩
  obtain rfl := hw.symm
  clear hw
  cases r
  · go_wp2
    go_ret
    exact ⟨rfl, Below.refl _ _⟩
  go_wp2_with fail
  refine g5.out.mono ?_
  rintro e w1 ⟨⟨r, rfl⟩, hw⟩
  obtain rfl := hw.symm
  clear hw
  cases r
  rotate_left
  · go_wp2
    go_ret
    exact ⟨rfl, Below.refl _ _⟩
  go_wp2_with fail
  refine g6.out.mono ?_
  rintro e w1 ⟨rfl, hM, hb1⟩
  go_wp2_with fail
  refine (zz_B id hM (by omega) (fun j hj => absurd hj (Nat.not_lt_zero _)) (fun j hj => absurd hj (Nat.not_lt_zero _))).mono ?_
  rintro e w2 ⟨rfl, hb2⟩
  have hbw : Below w.heap.size w w2 := hb1.trans (hb2.mono hb1.size)
  clear hM hb1 hb2 g4 g5 g6
  go_wp2_with fail
  go_loop [18, 19, 20] (fun z y i => ∃ k : Nat, k ≤ 0 ∧ i = .int .i64 k ∧ y = .bool false ∧ z = .bool false) (fun _ _ i => 0 - (intOf i).toNat)
  case atStart => exact ⟨0, Nat.zero_le _, rfl, rfl, rfl⟩
  case round =>
    obtain ⟨k, hk, rfl, rfl, rfl⟩ := hrel
    have hlt : ¬ k < 0 := Nat.not_lt_zero _
    go_wp2
    go_ret
    exact ⟨rfl, hbw⟩

theorem law_big (ao : Option Addr) (n c : Nat) (ro : Option Addr) (rn rc : Nat) (ho : Option Addr) (hn hc : Nat) (id : ByteArray) (hp hs : Bool) (rT : ByteArray) (w : World) (hbig : 1048576 < n) :
    Calls Try.prog 3 #[.slice ao n c, .slice ro rn rc, .slice ho hn hc, .string id, .bool hp, .bool hs, .string rT] w fun e w' => e = .returned (.bool true) ∧ Below w.heap.size w w' := by
  have g4 := hid (guard4_big ao n c ro rn rc ho hn hc id hp hs rT w hbig)
  go_enter Try.func3, Try.ntmps3
  go_wp2_with fail
  refine g4.out.mono ?_
  rintro e w1 ⟨rfl, hw⟩
  obtain rfl := hw.symm
  go_wp2
  go_ret
  exact ⟨rfl, Below.refl _ _⟩

end Go.Proofs.Qxb6617145a
