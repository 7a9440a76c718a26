import Derived.Test.Qxb6617145aGuardB
namespace Go.Proofs.Qxb6617145a
open Go.RowKit

theorem refMatches (ro : Option Addr) (rn rc : Nat) (rt : Nat → ByteArray) (ho : Option Addr) (hn hc : Nat) (hr : Nat → Bool) (hp hs : Bool) (rT : ByteArray) (k : Nat) (w : World)
    (hcr : CellsAt w ro rn (fun i => .string (rt i))) (hch : CellsAt w ho hn (fun i => .bool (hr i))) :
    Calls Try.prog 8 #[.slice ro rn rc, .slice ho hn hc, .bool hp, .bool hs, .string rT, .int .i64 k] w fun e w' => e = .returned (.bool (mtc hp hs (hRef hn hr) (rAt rn rt) rT k)) ∧ w' = w := by
  have h9 := hid (hasRef ho hn hc hr k w hch)
  have h10 := hid (refAt ro rn rc rt k w hcr)
  clear hcr hch
  cases hp with
  | false =>
    go_enter Try.func8, Try.ntmps8
    go_wp2
    go_ret
    exact ⟨by simp [mtc], rfl⟩
  | true =>
    cases hs with
    | false =>
      go_enter Try.func8, Try.ntmps8
      go_wp2
      go_ret
      exact ⟨by simp [mtc], rfl⟩
    | true =>
      cases hh : hRef hn hr k with
      | false =>
        rw [hh] at h9
        have HF : Hid (mtc true true (hRef hn hr) (rAt rn rt) rT k = false) := by show mtc _ _ _ _ _ _ = _; simp [mtc, hh]
        clear hh
        go_enter Try.func8, Try.ntmps8
        go_wp2_with (go_at_call 9; refine h9.out.mono ?_; rintro e w' ⟨rfl, rfl⟩)
        go_ret
        rw [HF.out]
        exact ⟨rfl, rfl⟩
      | true =>
        rw [hh] at h9
        have HF : Hid (mtc true true (hRef hn hr) (rAt rn rt) rT k = eqS (rAt rn rt k) rT) := by show mtc _ _ _ _ _ _ = _; simp [mtc, hh]
        clear hh
        go_enter Try.func8, Try.ntmps8
        go_wp2_with (first | (go_at_call 9; refine h9.out.mono ?_; rintro e w' ⟨rfl, rfl⟩) | (go_at_call 10; refine h10.out.mono ?_; rintro e w' ⟨rfl, rfl⟩))
        go_ret
        rw [HF.out]
        exact ⟨rfl, rfl⟩

theorem guard4 (ao : Option Addr) (n c : Nat) (nm : Nat → ByteArray) (ro : Option Addr) (rn rc : Nat) (rt : Nat → ByteArray) (ho : Option Addr) (hn hc : Nat) (id : ByteArray) (hp hs : Bool) (rT : ByteArray) (w : World)
    (hbig : n ≤ 1048576) (hbr : rn ≤ 9223372036854775807) (hcn : CellsAt w ao n (fun i => .string (nm i))) (hcr : CellsAt w ro rn (fun i => .string (rt i))) :
    Calls Try.prog 4 #[.slice ao n c, .slice ro rn rc, .slice ho hn hc, .string id, .bool hp, .bool hs, .string rT] w fun e w' => SomeBool e ∧ w' = w := by
  rcases hcn with rfl | ⟨b, off, rfl, hcN⟩
  · rcases hcr with rfl | ⟨b2, off2, rfl, hcT⟩
    · exact guard4_00 ao c ro rc ho hn hc id hp hs rT w
    · exact guard4_01 ao c b2 off2 rn rc rt ho hn hc id hp hs rT w hbr hcT
  · rcases hcr with rfl | ⟨b2, off2, rfl, hcT⟩
    · exact guard4_10 b off n c nm ro rc ho hn hc id hp hs rT w hbig hcN
    · exact guard4_11 b off n c nm b2 off2 rn rc rt ho hn hc id hp hs rT w hbig hcN hbr hcT

theorem guard4_big (ao : Option Addr) (n c : Nat) (ro : Option Addr) (rn rc : Nat) (ho : Option Addr) (hn hc : Nat) (id : ByteArray) (hp hs : Bool) (rT : ByteArray) (w : World)
    (hbig : 1048576 < n) :
    Calls Try.prog 4 #[.slice ao n c, .slice ro rn rc, .slice ho hn hc, .string id, .bool hp, .bool hs, .string rT] w fun e w' => e = .returned (.bool false) ∧ w' = w := by
  go_enter Try.func4, Try.ntmps4
  go_wp2
  go_ret
  exact ⟨rfl, rfl⟩

theorem guard5_big (ao : Option Addr) (n c : Nat) (ro : Option Addr) (rn rc : Nat) (ho : Option Addr) (hn hc : Nat) (id : ByteArray) (rT : ByteArray) (w : World)
    (h : 65536 < n ∨ (n ≤ 65536 ∧ 65536 < rn) ∨ (n ≤ 65536 ∧ rn ≤ 65536 ∧ 65536 < hn) ∨ (n ≤ 65536 ∧ rn ≤ 65536 ∧ hn ≤ 65536 ∧ 1048576 < id.size) ∨ (n ≤ 65536 ∧ rn ≤ 65536 ∧ hn ≤ 65536 ∧ id.size ≤ 1048576 ∧ 1048576 < rT.size)) :
    Calls Try.prog 5 #[.slice ao n c, .slice ro rn rc, .slice ho hn hc, .string id, .string rT] w fun e w' => SomeBool e ∧ w' = w := by
  rcases h with h | ⟨h1, h2⟩ | ⟨h1, h2, h3⟩ | ⟨h1, h2, h3, h4⟩ | ⟨h1, h2, h3, h4, h5⟩
  all_goals
    go_enter Try.func5, Try.ntmps5
    go_wp2
    go_ret
    exact ⟨⟨true, rfl⟩, rfl⟩

theorem guard5 (ao : Option Addr) (n c : Nat) (nm : Nat → ByteArray) (ro : Option Addr) (rn rc : Nat) (rt : Nat → ByteArray) (ho : Option Addr) (hn hc : Nat) (id : ByteArray) (rT : ByteArray) (w : World)
    (hcn : CellsAt w ao n (fun i => .string (nm i))) (hcr : CellsAt w ro rn (fun i => .string (rt i))) :
    Calls Try.prog 5 #[.slice ao n c, .slice ro rn rc, .slice ho hn hc, .string id, .string rT] w fun e w' => SomeBool e ∧ w' = w := by
  by_cases hb : n ≤ 65536 ∧ rn ≤ 65536 ∧ hn ≤ 65536 ∧ id.size ≤ 1048576 ∧ rT.size ≤ 1048576
  · obtain ⟨b1, b2, b3, b4, b5⟩ := hb
    rcases hcn with rfl | ⟨b, off, rfl, hcN⟩
    · rcases hcr with rfl | ⟨b2', off2, rfl, hcT⟩
      · exact guard5_00 ao c ro rc ho hn hc id rT w b3 b4 b5
      · exact guard5_01 ao c b2' off2 rn rc rt ho hn hc id rT w b3 b4 b5 b2 hcT
    · rcases hcr with rfl | ⟨b2', off2, rfl, hcT⟩
      · exact guard5_10 b off n c nm ro rc ho hn hc id rT w b3 b4 b5 b1 hcN
      · exact guard5_11 b off n c nm b2' off2 rn rc rt ho hn hc id rT w b3 b4 b5 b1 hcN b2 hcT
  · exact guard5_big ao n c ro rn rc ho hn hc id rT w (by omega)
end Go.Proofs.Qxb6617145a
