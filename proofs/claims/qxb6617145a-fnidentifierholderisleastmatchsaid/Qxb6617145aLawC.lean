import Derived.Test.Qxb6617145aLawParts
namespace Go.Proofs.Qxb6617145a
open Go.RowKit

set_option maxHeartbeats 2000000 in
set_option maxRecDepth 100000 in
theorem law_C (b off n c : Nat) (nm : Nat → ByteArray) (ro : Option Addr) (rn rc : Nat) (rt : Nat → ByteArray) (ho : Option Addr) (hn hc : Nat) (hr : Nat → Bool) (id : ByteArray) (hp hs : Bool) (rT : ByteArray) (w : World)
    (hbig : n ≤ 1048576) (hbr : rn ≤ 9223372036854775807) (hcN : ∀ i, i < n → w.cell? ⟨b, off + i, none⟩ = some (.string (nm i))) (hcr : CellsAt w ro rn (fun i => .string (rt i))) (hch : CellsAt w ho hn (fun i => .bool (hr i)))
    (k0 : Nat) (hk0 : k0 < n) (h1 : Hid (∀ j, j < n → eqS (nm j) id = false)) (h2 : Hid (mtc hp hs (hRef hn hr) (rAt rn rt) rT k0 = true)) (h3 : Hid (∀ j, j < k0 → mtc hp hs (hRef hn hr) (rAt rn rt) rT j = false)) :
    Calls Try.prog 3 #[.slice (some ⟨b, off, none⟩) n c, .slice ro rn rc, .slice ho hn hc, .string id, .bool hp, .bool hs, .string rT] w fun e w' => e = .returned (.bool true) ∧ Below w.heap.size w w' := by
  have hcn : CellsAt w (some ⟨b, off, none⟩) n (fun i => .string (nm i)) := Or.inr ⟨b, off, rfl, hcN⟩
  have g4 := hid (guard4 (some ⟨b, off, none⟩) n c nm ro rn rc rt ho hn hc id hp hs rT w hbig hbr hcn hcr)
  have g5 := hid (guard5 (some ⟨b, off, none⟩) n c nm ro rn rc rt ho hn hc id rT w hcn hcr)
  have g6 := hid (buildAny (some ⟨b, off, none⟩) n c nm ro rn rc rt ho hn hc hr hp hs rT w hbig hcn hcr hch)
  have g8 : Hid (∀ W : World, Below w.heap.size w W → ∀ k : Nat, Calls Try.prog 8 #[.slice ro rn rc, .slice ho hn hc, .bool hp, .bool hs, .string rT, .int .i64 k] W fun e w' => e = .returned (.bool (mtc hp hs (hRef hn hr) (rAt rn rt) rT k)) ∧ w' = W) :=
    fun W hW k => refMatches ro rn rc rt ho hn hc hr hp hs rT k W (hcr.below hW) (hch.below hW)
  have hqi := hid (qOf_inj w.heap.size (hRef hn hr))
  clear hcn hcr hch
  have HN := hid hcN
  clear hcN
  go_enter Try.func3, Try.ntmps3
  go_wp2_with fail
  refine g4.out.mono ?_
  rintro e w1 ⟨⟨r, rfl⟩, hw⟩
  obtain rfl := hw.symm
  clear hw
  cases r
  · go_wp2
    go_ret
    exact ⟨rfl, Below.refl _ _⟩
  go_wp2_with fail
  refine g5.out.mono ?_
  rintro e w1 ⟨⟨r, rfl⟩, hw⟩
  obtain rfl := hw.symm
  clear hw
  cases r
  rotate_left
  · go_wp2
    go_ret
    exact ⟨rfl, Below.refl _ _⟩
  go_wp2_with fail
  refine g6.out.mono ?_
  rintro e w1 ⟨rfl, hM, hb1⟩
  go_wp2_with fail
  refine (zz_C id k0 hM hbig hk0 h1.out h2.out h3.out).mono ?_
  rintro e w2 ⟨rfl, hb2⟩
  have hM2 := hM.below hb2
  have hbw : Below w.heap.size w w2 := hb1.trans (hb2.mono hb1.size)
  have HM := hid hM2
  have HN2 : Hid (∀ i, i < n → w2.cell? ⟨b, off + i, none⟩ = some (.string (nm i))) := fun i hi => cell_below hbw (HN.out i hi)
  have HR2 : Hid (∀ i, i < n → w2.cell? ⟨w.heap.size, i, none⟩ = some (.pointer (some ⟨qOf w.heap.size (hRef hn hr) i, 0, none⟩))) := hM2.row
  have g8' : Hid (∀ k : Nat, Calls Try.prog 8 #[.slice ro rn rc, .slice ho hn hc, .bool hp, .bool hs, .string rT, .int .i64 k] w2 fun e w' => e = .returned (.bool (mtc hp hs (hRef hn hr) (rAt rn rt) rT k)) ∧ w' = w2) := g8.out w2 hbw
  clear hM hM2 hb1 hb2 g4 g5 g6 HN g8
  go_wp2_with fail
  go_loop [18, 19, 20] (fun z y i => ∃ k : Nat, ∃ r : Bool, k ≤ n ∧ i = .int .i64 k ∧ y = .bool r ∧ z = .bool false) (fun _ _ i => n - (intOf i).toNat)
  case atStart => exact ⟨0, false, Nat.zero_le _, rfl, rfl, rfl⟩
  case round =>
    obtain ⟨k, r, hk, rfl, rfl, rfl⟩ := hrel
    by_cases hlt : k < n
    · have hcell := HN2.out k hlt
      have hs1 : ((nm k).toList == id.toList) = false := h1.out k hlt
      go_wp2_with (go_at_call 8; refine (g8'.out k).mono ?_; rintro e w' ⟨rfl, rfl⟩)
      all_goals
        go_round
        case rel => exact ⟨k + 1, _, by omega, by go_num, rfl, rfl⟩
        case measure => simp [intOf]; omega
    · skip
      go_wp2_with fail
      go_loop [21, 22] (fun z i => ∃ m : Nat, m ≤ n ∧ i = .int .i64 m ∧ ((m ≤ k0 ∧ z = .int .i64 (-1)) ∨ (k0 < m ∧ z = .int .i64 k0))) (fun _ i => n - (intOf i).toNat)
      case atStart => exact ⟨0, Nat.zero_le _, rfl, Or.inl ⟨Nat.zero_le _, rfl⟩⟩
      case round =>
        obtain ⟨m, hm, rfl, hz⟩ := hrel
        by_cases hmt : m < n
        · have hcell := HR2.out m hmt
          by_cases he : m = k0
          · subst he
            have heq := fs_eq w2 ⟨qOf w.heap.size (hRef hn hr) m, 0, none⟩
            rcases hz with ⟨hkk', rfl⟩ | ⟨hkk', rfl⟩
            · go_wp2
              go_round
              case rel => exact ⟨m + 1, by omega, by go_num, Or.inr ⟨by omega, rfl⟩⟩
              case measure => simp [intOf]; omega
            · omega
          · have heq := fs_ne HM.out m k0 hmt hk0 (fun e => he (hqi.out _ _ e))
            rcases hz with ⟨hkk', rfl⟩ | ⟨hkk', rfl⟩
            · go_wp2
              go_round
              case rel => exact ⟨m + 1, by omega, by go_num, Or.inl ⟨by omega, rfl⟩⟩
              case measure => simp [intOf]; omega
            · go_wp2
              go_round
              case rel => exact ⟨m + 1, by omega, by go_num, Or.inr ⟨by omega, rfl⟩⟩
              case measure => simp [intOf]; omega
        · rcases hz with ⟨hkk', rfl⟩ | ⟨hkk', rfl⟩
          · omega
          have g8k := g8'.out k0
          rw [h2.out] at g8k
          have G8K := hid g8k
          clear g8k
          go_wp2_with fail
          refine G8K.out.mono ?_
          rintro e w3 ⟨rfl, hw⟩
          obtain rfl := hw.symm
          clear hw
          go_wp2_with fail
          go_loop [24] (fun i => ∃ j : Nat, j ≤ k0 ∧ i = .int .i64 j) (fun i => k0 - (intOf i).toNat)
          case atStart => exact ⟨0, Nat.zero_le _, rfl⟩
          case round =>
            obtain ⟨j, hj, rfl⟩ := hrel
            by_cases hjt : j < k0
            · have g8j := g8'.out j
              rw [h3.out j hjt] at g8j
              have G8J := hid g8j
              clear g8j
              go_wp2_with fail
              refine G8J.out.mono ?_
              rintro e w3 ⟨rfl, hw⟩
              obtain rfl := hw.symm
              clear hw
              go_wp2_with fail
              go_round
              case rel => exact ⟨j + 1, by omega, by go_num⟩
              case measure => simp [intOf]; omega
            · go_wp2
              go_ret
              exact ⟨rfl, hbw⟩
end Go.Proofs.Qxb6617145a
