import Derived.Test.Qxb6617128aJoinWalks
namespace Go.Proofs.Qxb6617128a
open Go.RowKit

theorem zzOneSp (s : ByteArray) (w : World) (hs : s.size ≤ 35184372088832) :
    Calls Try.prog 7 #[.string s] w fun e w' => e = .returned (.string ⟨(osp false s.data.toList).toArray⟩) ∧ Below w.heap.size w w' := by
  go_enter Try.func7, Try.ntmps7
  go_wp2_with (go_at_call 19; refine (oneSpace _ _ hs).mono ?_; rintro e w1 ⟨rfl, hb⟩)
  go_ret
  exact ⟨rfl, hb⟩

theorem joinBig (a b : ByteArray) (w : World) (ha : a.size ≤ 9223372036854775807) (hb : b.size ≤ 9223372036854775807) (h : 524288 < a.size ∨ (a.size ≤ 524288 ∧ 524288 < b.size)) :
    Calls Try.prog 4 #[.string a, .string b] w fun e w' => e = .returned (.bool true) ∧ Below w.heap.size w w' := by
  rcases h with h | ⟨h, h2⟩
  all_goals
    go_enter Try.func4, Try.ntmps4
    go_wp2_with (go_at_call 9; go_in)
    all_goals
      go_ret
      exact ⟨rfl, Below.refl _ _⟩

/-- the pairs from place j + 1 on -/
def pairsAt (a : ByteArray) (j : Nat) : Nat := match a.data.toList.drop j with
  | [] => 0
  | c :: l => pairs (isBl c) l
theorem pairsAt_zero (a : ByteArray) : pairsAt a 0 = pairs false a.data.toList := by
  unfold pairsAt
  rw [List.drop_zero]
  split <;> rename_i h <;> simp [h, pairs]
theorem pairsAt_step (a : ByteArray) (j : Nat) (h : j + 1 < a.size) : pairsAt a j = (if isBl (a[j]'(by omega)) && isBl a[j + 1] then 1 else 0) + pairsAt a (j + 1) := by
  unfold pairsAt
  rw [drop_cons a j (by omega), drop_cons a (j + 1) h]
  rfl
theorem pairsAt_end (a : ByteArray) (j : Nat) (h : ¬ j + 1 < a.size) : pairsAt a j = 0 := by
  unfold pairsAt
  by_cases hj : j < a.size
  · rw [drop_cons a j hj, List.drop_of_length_le (by simp; omega)]; rfl
  · rw [List.drop_of_length_le (by simp; omega)]

/-- a call of function f at args comes to the string r and writes nothing old -/
def Gives (f : Nat) (args : Array Value) (r : ByteArray) : Prop :=
  ∀ w : World, Calls Try.prog f args w fun e w' => e = .returned (.string r) ∧ Below w.heap.size w w'

set_option maxHeartbeats 1000000 in
set_option maxRecDepth 100000 in
theorem joinCore (a b ra rb rab nbr : ByteArray) (w : World) (ha : a.size ≤ 524288) (hb : b.size ≤ 524288) (hra : ra.size ≤ 524288) (hrb : rb.size ≤ 524288)
    (g7a : Gives 7 #[.string a] ra) (g7b : Gives 7 #[.string b] rb) (g7ab : Gives 7 #[.string (a ++ b)] rab) (g7r : Gives 7 #[.string rab] rab)
    (g11 : Hid (∀ w : World, Calls Try.prog 11 #[.string ra] w fun e w' => e = .returned (.bool false) ∧ w' = w))
    (g12r : Gives 12 #[.string ra, .bool false] nbr) (g12a : Gives 12 #[.string a, .bool true] nbr)
    (hlen : Hid (ra.size + pairs false a.data.toList = a.size))
    (hcase : (ra.size ≤ 0 ∧ ra ++ rb = rab) ∨ (∃ h : ra.size - 1 < ra.size, ((ra[ra.size - 1].toNat : Int) == 32) = false ∧ ra ++ rb = rab) ∨
      (∃ h : ra.size - 1 < ra.size, ((ra[ra.size - 1].toNat : Int) == 32) = true ∧ rb.size ≤ 0 ∧ ra ++ rb = rab) ∨
      (∃ h : ra.size - 1 < ra.size, ((ra[ra.size - 1].toNat : Int) == 32) = true ∧ ∃ h2 : 0 < rb.size, ((rb[0].toNat : Int) == 32) = false ∧ ra ++ rb = rab) ∨
      (∃ h : ra.size - 1 < ra.size, ((ra[ra.size - 1].toNat : Int) == 32) = true ∧ ∃ h2 : 0 < rb.size, ((rb[0].toNat : Int) == 32) = true ∧ ra ++ rb.extract 1 rb.size = rab)) :
    Calls Try.prog 4 #[.string a, .string b] w fun e w' => e = .returned (.bool true) ∧ Below w.heap.size w w' := by
  rcases hcase with ⟨hz, hw⟩ | ⟨hz, hl, hw⟩ | ⟨hz, hl, hy, hw⟩ | ⟨hz, hl, hy, hf, hw⟩ | ⟨hz, hl, hy, hf, hw⟩
  all_goals
    go_enter Try.func4, Try.ntmps4
    go_wp2_with (go_at_call 9; go_in)
    refine (g7a _).mono ?_
    rintro e w1 ⟨rfl, hb1⟩
    go_wp2_with fail
    refine (g7b _).mono ?_
    rintro e w2 ⟨rfl, hb2⟩
    go_wp2_with fail
    refine (g7ab _).mono ?_
    rintro e w3 ⟨rfl, hb3⟩
    go_wp2_with fail
    clear hw
    go_loop [9, 10] (fun pr i => ∃ j p : Nat, j ≤ a.size ∧ p ≤ j ∧ i = .int .i64 ((j : Int) + 1) ∧ pr = .int .i64 p ∧ p + pairsAt a j = pairs false a.data.toList) (fun _ i => a.size - (intOf i).toNat)
    case atStart => exact ⟨0, 0, Nat.zero_le _, Nat.le_refl _, by go_num, rfl, by rw [Nat.zero_add]; exact pairsAt_zero a⟩
    case round =>
      obtain ⟨j, p, hj, hp, rfl, rfl, hpa⟩ := hrel
      have HP : Hid (p + pairsAt a j = pairs false a.data.toList) := hpa
      clear hpa
      by_cases hlt : j + 1 < a.size
      · have hst := pairsAt_step a j hlt
        have HS : Hid (pairsAt a j = (if isBl (a[j]'(by omega)) && isBl a[j + 1] then 1 else 0) + pairsAt a (j + 1)) := hst
        clear hst
        cases h1 : isBl (a[j]'(by omega)) with
        | false =>
          have HR : Hid (p + pairsAt a (j + 1) = pairs false a.data.toList) := by
            have := HS.out; rw [h1] at this; simp at this; have h := HP.out; rw [this] at h; exact h
          clear HS HP
          go_wp2_with (go_at_call 10; refine (isBlank _ _).mono ?_; rintro e w' ⟨rfl, rfl⟩)
          go_round
          case rel => exact ⟨j + 1, p, by omega, by omega, by go_num, rfl, HR.out⟩
          case measure => simp [intOf]; omega
        | true =>
          cases h2 : isBl a[j + 1] with
          | false =>
            have HR : Hid (p + pairsAt a (j + 1) = pairs false a.data.toList) := by
              have := HS.out; rw [h1, h2] at this; simp at this; have h := HP.out; rw [this] at h; exact h
            clear HS HP
            go_wp2_with (go_at_call 10; refine (isBlank _ _).mono ?_; rintro e w' ⟨rfl, rfl⟩)
            go_round
            case rel => exact ⟨j + 1, p, by omega, by omega, by go_num, rfl, HR.out⟩
            case measure => simp [intOf]; omega
          | true =>
            have HR : Hid ((p + 1) + pairsAt a (j + 1) = pairs false a.data.toList) := by
              have := HS.out; rw [h1, h2] at this; simp at this; have h := HP.out; rw [this] at h; rw [← h]; show _ = _; omega
            clear HS HP
            go_wp2_with (go_at_call 10; refine (isBlank _ _).mono ?_; rintro e w' ⟨rfl, rfl⟩)
            go_round
            case rel => exact ⟨j + 1, p + 1, by omega, by omega, by go_num, by go_num, HR.out⟩
            case measure => simp [intOf]; omega
      · have hq : p = pairs false a.data.toList := by have := HP.out; rw [pairsAt_end a j hlt] at this; exact this
        have hl1 : ra.size + p ≤ a.size := by have := hlen.out; omega
        have hl2 : a.size ≤ ra.size + p := by have := hlen.out; omega
        clear hq HP
        go_wp2_with fail
        refine (g7r _).mono ?_
        rintro e w4 ⟨rfl, hb4⟩
        go_wp2_with fail
        refine (g11.out _).mono ?_
        rintro e w4 ⟨rfl, rfl⟩
        go_wp2_with fail
        refine (g12r _).mono ?_
        rintro e w5 ⟨rfl, hb5⟩
        go_wp2_with fail
        refine (g12a _).mono ?_
        rintro e w6 ⟨rfl, hb6⟩
        go_wp2
        go_ret
        refine ⟨rfl, ?_⟩
        have s1 := hb1.size
        have s2 := hb2.size
        have s3 := hb3.size
        have s4 := hb4.size
        have s5 := hb5.size
        exact ((((hb1.trans (hb2.mono s1)).trans (hb3.mono (by omega))).trans (hb4.mono (by omega))).trans (hb5.mono (by omega))).trans (hb6.mono (by omega))
end Go.Proofs.Qxb6617128a
