import Derived.Test.Qxb6617145aProg
import Derived.WalkKit
import Derived.Deep.QuietTactic
import Derived.BigQuiet
namespace Go.Proofs.Qxb6617145a
open Go.RowKit

/-- the first n cells from an address on hold f 0, f 1, .. -/
def CellsAt (w : World) (ao : Option Addr) (n : Nat) (f : Nat → Value) : Prop :=
  n = 0 ∨ ∃ b off, ao = some ⟨b, off, none⟩ ∧ ∀ i, i < n → w.cell? ⟨b, off + i, none⟩ = some (f i)

def hRef (n : Nat) (hr : Nat → Bool) (k : Nat) : Bool := if k < n then hr k else false
def rAt (n : Nat) (rt : Nat → ByteArray) (k : Nat) : ByteArray := if k < n then rt k else ⟨#[]⟩

theorem hasRef (ao : Option Addr) (n c : Nat) (hr : Nat → Bool) (k : Nat) (w : World) (hc : CellsAt w ao n (fun i => .bool (hr i))) :
    Calls Try.prog 9 #[.slice ao n c, .int .i64 k] w fun e w' => e = .returned (.bool (hRef n hr k)) ∧ w' = w := by
  by_cases h : k < n
  · have e : hRef n hr k = hr k := by simp [hRef, h]
    rw [e]
    rcases hc with h0 | ⟨b, off, rfl, hcell⟩
    · omega
    have hk := hcell k h
    clear hcell e
    go_enter Try.func9, Try.ntmps9
    go_wp2
    go_ret
    exact ⟨rfl, rfl⟩
  · have e : hRef n hr k = false := by simp [hRef, h]
    rw [e]
    clear e
    have hd : decide ((k : Int) < (n : Int)) = false := decide_eq_false (by omega)
    go_enter Try.func9, Try.ntmps9
    go_wp2
    go_ret
    exact ⟨rfl, rfl⟩

theorem refAt (ao : Option Addr) (n c : Nat) (rt : Nat → ByteArray) (k : Nat) (w : World) (hc : CellsAt w ao n (fun i => .string (rt i))) :
    Calls Try.prog 10 #[.slice ao n c, .int .i64 k] w fun e w' => e = .returned (.string (rAt n rt k)) ∧ w' = w := by
  by_cases h : k < n
  · have e : rAt n rt k = rt k := by simp [rAt, h]
    rw [e]
    rcases hc with h0 | ⟨b, off, rfl, hcell⟩
    · omega
    have hk := hcell k h
    clear hcell e
    go_enter Try.func10, Try.ntmps10
    go_wp2
    go_ret
    exact ⟨rfl, rfl⟩
  · have e : rAt n rt k = ⟨#[]⟩ := by simp [rAt, h]
    rw [e]
    clear e
    go_enter Try.func10, Try.ntmps10
    go_wp2
    go_ret
    exact ⟨rfl, rfl⟩

/-- Go's == on strings, as the walk writes it -/
def eqS (s t : ByteArray) : Bool := s.toList == t.toList

theorem isName (f c : Nat) (s t : ByteArray) (w : World) (h1 : w.cell? ⟨f, 0, none⟩ = some (.string s)) (h2 : w.cell? ⟨c, 0, none⟩ = some (.string t)) :
    Calls Try.prog 15 #[.pointer (some ⟨f, 0, none⟩), .pointer (some ⟨c, 0, none⟩)] w fun e w' => e = .returned (.bool (eqS s t)) ∧ ∃ n, w' = w.drewN n := by
  go_enter Try.func15, Try.ntmps15
  go_wp2
  go_quiet (fail)
  go_wp2
  go_ret
  exact ⟨rfl, nq, rfl⟩

theorem isRef_nil (f c : Nat) (w : World) (h1 : w.cell? ⟨f, 7, none⟩ = some (.pointer none)) :
    Calls Try.prog 14 #[.pointer (some ⟨f, 0, none⟩), .pointer (some ⟨c, 0, none⟩)] w fun e w' => e = .returned (.bool false) ∧ ∃ n, w' = w.drewN n := by
  go_enter Try.func14, Try.ntmps14
  go_wp2
  go_quiet (fail)
  go_wp2
  go_ret
  exact ⟨rfl, nq, rfl⟩

theorem isRef_some (f c r m rs re : Nat) (s t : ByteArray) (w : World) (h1 : w.cell? ⟨f, 7, none⟩ = some (.pointer (some ⟨r, 0, none⟩))) (h2 : w.cell? ⟨r, 0, none⟩ = some (.string s))
    (h3 : w.cell? ⟨c, 0, none⟩ = some (.pointer (some ⟨m, 0, none⟩))) (h4 : w.cell? ⟨m, 7, none⟩ = some (.pointer (some ⟨rs, 0, none⟩))) (h5 : w.cell? ⟨rs, 4, none⟩ = some (.pointer (some ⟨re, 0, none⟩))) (h6 : w.cell? ⟨re, 0, none⟩ = some (.string t)) :
    Calls Try.prog 14 #[.pointer (some ⟨f, 0, none⟩), .pointer (some ⟨c, 0, none⟩)] w fun e w' => e = .returned (.bool (eqS s t)) ∧ ∃ n, w' = w.drewN n := by
  go_enter Try.func14, Try.ntmps14
  go_wp2
  go_quiet (fail)
  go_wp2
  go_ret
  exact ⟨rfl, nq, rfl⟩
end Go.Proofs.Qxb6617145a
