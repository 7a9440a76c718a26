import Derived.Test.Qxb6617145aBuildNone
import Derived.LaidEqlPtr
namespace Go.Proofs.Qxb6617145a
open Go.RowKit

section
variable {w : World} {B n : Nat} {q : Nat → Nat} {nm : Nat → ByteArray} {hR : Nat → Bool} {rv : Nat → ByteArray} {mq mm : Nat} {hp hs : Bool} {rT : ByteArray}

theorem zz_A (id : ByteArray) (k : Nat) (h : Mem w B n q nm hR rv mq mm hp hs rT) (hn : n ≤ 1048576) (hk : k < n) (h1 : eqS (nm k) id = true) (h2 : ∀ j, j < k → eqS (nm j) id = false) :
    Calls Try.prog 7 #[.pointer (some ⟨mm, 0, none⟩), .string id] w fun e w' => e = .returned (.pointer (some ⟨q k, 0, none⟩)) ∧ Below w.heap.size w w' :=
  zzIdent id _ (ident_name id k h hn hk (idxOf_hit _ n k hk h1 h2))

theorem zz_B (id : ByteArray) (h : Mem w B n q nm hR rv mq mm hp hs rT) (hn : n ≤ 1048576) (h1 : ∀ j, j < n → eqS (nm j) id = false) (h2 : ∀ j, j < n → mtc hp hs hR rv rT j = false) :
    Calls Try.prog 7 #[.pointer (some ⟨mm, 0, none⟩), .string id] w fun e w' => e = .returned (.pointer none) ∧ Below w.heap.size w w' := by
  have hx := idxOf_none (fun i => eqS (nm i) id) n h1
  by_cases hps : (hp && hs) = true
  · obtain ⟨rfl, rfl⟩ : hp = true ∧ hs = true := by simpa using hps
    have em : mtc true true hR rv rT = fun i => hR i && eqS (rv i) rT := by funext i; simp [mtc]
    rw [em] at h2
    exact zzIdent id _ (ident_refNone id h hn hx (idxOf_none _ n h2))
  · exact zzIdent id _ (ident_bare id h hn hx (by simpa using hps))

theorem zz_C (id : ByteArray) (k : Nat) (h : Mem w B n q nm hR rv mq mm hp hs rT) (hn : n ≤ 1048576) (hk : k < n) (h1 : ∀ j, j < n → eqS (nm j) id = false) (h2 : mtc hp hs hR rv rT k = true) (h3 : ∀ j, j < k → mtc hp hs hR rv rT j = false) :
    Calls Try.prog 7 #[.pointer (some ⟨mm, 0, none⟩), .string id] w fun e w' => e = .returned (.pointer (some ⟨q k, 0, none⟩)) ∧ Below w.heap.size w w' := by
  have hx := idxOf_none (fun i => eqS (nm i) id) n h1
  obtain ⟨rfl, rfl⟩ : hp = true ∧ hs = true := by
    simp only [mtc, Bool.and_eq_true] at h2
    exact h2.1.1
  have em : mtc true true hR rv rT = fun i => hR i && eqS (rv i) rT := by funext i; simp [mtc]
  rw [em] at h2 h3
  exact zzIdent id _ (ident_refHit id k h hn hk hx (idxOf_hit _ n k hk h2 h3))

theorem size38 : (Try.prog.info? 38).map (·.size) = some 8 := by kernel_rfl

/-- two fields are one only if their places are one -/
theorem fs_ne (h : Mem w B n q nm hR rv mq mm hp hs rT) (i k : Nat) (hi : i < n) (hk : k < n) (hne : q i ≠ q k) :
    (binOp .eql 30 (.pointer (some ⟨q i, 0, none⟩)) (.pointer (some ⟨q k, 0, none⟩))).run Try.prog w = .ok (.bool false) w := by
  obtain ⟨j, hj, hjs⟩ := Option.map_eq_some_iff.1 size38
  obtain ⟨ca, ha⟩ := h.blk i hi
  obtain ⟨cb, hb⟩ := h.blk k hk
  exact run_eql_ptr_other w Try.underlying30 hj (by rw [hjs]; decide) (fun e => hne (congrArg Addr.block e)) ha hb

theorem fs_eq (w : World) (a : Addr) : (binOp .eql 30 (.pointer (some a)) (.pointer (some a))).run Try.prog w = .ok (.bool true) w := by
  obtain ⟨j, hj, _⟩ := Option.map_eq_some_iff.1 size38
  exact run_eql_ptr_same w a Try.underlying30 hj
end
end Go.Proofs.Qxb6617145a
