import Derived.Test.Qxb6617145aBase
namespace Go.Proofs.Qxb6617145a
open Go.RowKit

/-- the least index below n at which p answers yes, or -1 -/
def idxOf (p : Nat → Bool) (n : Nat) : Int := match (List.range n).find? p with
  | some k => (k : Int)
  | none => -1

theorem idxOf_hit (p : Nat → Bool) (n k : Nat) (hk : k < n) (hp : p k = true) (hno : ∀ j, j < k → p j = false) : idxOf p n = k := by
  have h : (List.range n).find? p = some k := by
    rw [List.find?_range_eq_some]
    exact ⟨hp, by simpa using hk, fun j hj => by simp [hno j hj]⟩
  simp [idxOf, h]
theorem idxOf_none (p : Nat → Bool) (n : Nat) (hno : ∀ j, j < n → p j = false) : idxOf p n = -1 := by
  have h : (List.range n).find? p = none := by
    rw [List.find?_eq_none]
    intro x hx
    simp [hno x (by simpa using hx)]
  simp [idxOf, h]

/-- what a predicate closure f bound to the cell at cp answers in the world w, whatever has been drawn -/
def Asks (f cp : Nat) (w : World) (q : Nat → Nat) (n : Nat) (p : Nat → Bool) : Prop :=
  ∀ i, i < n → ∀ m : Nat, Calls Try.prog f #[.pointer (some ⟨q i, 0, none⟩), .pointer (some ⟨cp, 0, none⟩)] (w.drewN m) fun e w' => e = .returned (.bool (p i)) ∧ ∃ k, w' = w.drewN k

set_option maxHeartbeats 400000 in
theorem index15 (B n cp : Nat) (q : Nat → Nat) (p : Nat → Bool) (w : World) (hn : n ≤ 1048576) (hrow : ∀ i, i < n → w.cell? ⟨B, i, none⟩ = some (.pointer (some ⟨q i, 0, none⟩)))
    (hask : Asks 15 cp w q n p) :
    Calls Try.prog 13 #[.slice (some ⟨B, 0, none⟩) n n, .func (Fn.func 15) #[] #[.pointer (some ⟨cp, 0, none⟩)]] w fun e w' => e = .returned (.int .i64 (idxOf p n)) ∧ ∃ m, w' = w.drewN m := by
  go_enter Try.func13, Try.ntmps13
  go_wp2
  go_loopw [8] (fun i wr => ∃ k : Nat, k ≤ n ∧ i = .int .i64 k ∧ (∀ j, j < k → p j = false) ∧ ∃ m, wr = w.drewN m) (fun i _ => n - (intOf i).toNat)
  case atStart => exact ⟨0, Nat.zero_le _, rfl, fun j hj => absurd hj (Nat.not_lt_zero _), 0, rfl⟩
  case round =>
    obtain ⟨k, hk, rfl, hno, m, hw⟩ := hrel
    subst hw
    have HN : Hid (∀ j, j < k → p j = false) := hno
    clear hno
    by_cases hlt : k < n
    · have hc := hrow k hlt
      have HR : Hid (∀ i, i < n → w.cell? ⟨B, i, none⟩ = some (.pointer (some ⟨q i, 0, none⟩))) := hrow
      clear hrow
      go_wp2_with (go_at_call 15; refine (hask k hlt m).mono ?_; rintro e w' ⟨rfl, m', rfl⟩)
      · have hp : p k = true := by assumption
        have HF : Hid (idxOf p n = k) := idxOf_hit p n k hlt hp HN.out
        go_ret
        refine ⟨?_, m', rfl⟩
        rw [HF.out]
        rfl
      · have hp : p k = false := by assumption
        go_roundw
        case rel => exact ⟨k + 1, by omega, by go_num, fun j hj => by
                      by_cases e : j = k
                      · rw [e]; exact hp
                      · exact HN.out j (by omega), m', rfl⟩
        case measure => simp [intOf]; omega
    · have HF : Hid (idxOf p n = -1) := idxOf_none p n (fun j hj => HN.out j (by omega))
      go_wp2
      go_ret
      refine ⟨?_, m, rfl⟩
      rw [HF.out]
      rfl

set_option maxHeartbeats 400000 in
theorem index14 (B n cp : Nat) (q : Nat → Nat) (p : Nat → Bool) (w : World) (hn : n ≤ 1048576) (hrow : ∀ i, i < n → w.cell? ⟨B, i, none⟩ = some (.pointer (some ⟨q i, 0, none⟩)))
    (hask : Asks 14 cp w q n p) :
    Calls Try.prog 13 #[.slice (some ⟨B, 0, none⟩) n n, .func (Fn.func 14) #[] #[.pointer (some ⟨cp, 0, none⟩)]] w fun e w' => e = .returned (.int .i64 (idxOf p n)) ∧ ∃ m, w' = w.drewN m := by
  go_enter Try.func13, Try.ntmps13
  go_wp2
  go_loopw [8] (fun i wr => ∃ k : Nat, k ≤ n ∧ i = .int .i64 k ∧ (∀ j, j < k → p j = false) ∧ ∃ m, wr = w.drewN m) (fun i _ => n - (intOf i).toNat)
  case atStart => exact ⟨0, Nat.zero_le _, rfl, fun j hj => absurd hj (Nat.not_lt_zero _), 0, rfl⟩
  case round =>
    obtain ⟨k, hk, rfl, hno, m, hw⟩ := hrel
    subst hw
    have HN : Hid (∀ j, j < k → p j = false) := hno
    clear hno
    by_cases hlt : k < n
    · have hc := hrow k hlt
      have HR : Hid (∀ i, i < n → w.cell? ⟨B, i, none⟩ = some (.pointer (some ⟨q i, 0, none⟩))) := hrow
      clear hrow
      go_wp2_with (go_at_call 14; refine (hask k hlt m).mono ?_; rintro e w' ⟨rfl, m', rfl⟩)
      · have hp : p k = true := by assumption
        have HF : Hid (idxOf p n = k) := idxOf_hit p n k hlt hp HN.out
        go_ret
        refine ⟨?_, m', rfl⟩
        rw [HF.out]
        rfl
      · have hp : p k = false := by assumption
        go_roundw
        case rel => exact ⟨k + 1, by omega, by go_num, fun j hj => by
                      by_cases e : j = k
                      · rw [e]; exact hp
                      · exact HN.out j (by omega), m', rfl⟩
        case measure => simp [intOf]; omega
    · have HF : Hid (idxOf p n = -1) := idxOf_none p n (fun j hj => HN.out j (by omega))
      go_wp2
      go_ret
      refine ⟨?_, m, rfl⟩
      rw [HF.out]
      rfl

end Go.Proofs.Qxb6617145a
