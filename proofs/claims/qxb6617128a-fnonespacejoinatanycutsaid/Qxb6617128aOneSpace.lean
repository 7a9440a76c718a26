import Derived.Test.Qxb6617128aBuilder
import Derived.Test.Qxb6617128aPlain
namespace Go.Proofs.Qxb6617128a
open Go.RowKit

theorem drop_cons (s : ByteArray) (k : Nat) (h : k < s.size) : s.data.toList.drop k = s[k] :: s.data.toList.drop (k + 1) := by
  rw [List.drop_eq_getElem_cons (by simpa using h)]; rfl

theorem fresh36 (w : World) : Lib.IsBuilder 36 5 w.heap.size w.heap.size (Lib.byteCells []) (w.alloc (.cells #[.pointer none, .slice none 0 0] 36)) :=
  Lib.fresh_isBuilder 36 5 w

theorem blank_cases {c : UInt8} (h : isBl c = true) : ((c.toNat : Int) == 32) = true ∨ (((c.toNat : Int) == 32) = false ∧ ((c.toNat : Int) == 9) = true) := by
  unfold isBl at h
  by_cases h1 : c = 32
  · subst h1; exact Or.inl (by decide)
  · have h9 : c = 9 := by simpa [h1] using h
    subst h9; exact Or.inr (by decide)

theorem other_cases {c : UInt8} (h : isBl c = false) : ((c.toNat : Int) == 32) = false ∧ ((c.toNat : Int) == 9) = false := by
  unfold isBl at h
  simp only [Bool.or_eq_false_iff] at h
  constructor
  · rw [beq_eq_false_iff_ne]; intro e
    have : c = 32 := UInt8.toNat_inj.1 (by simp; omega)
    simp [this] at h
  · rw [beq_eq_false_iff_ne]; intro e
    have : c = 9 := UInt8.toNat_inj.1 (by simp; omega)
    simp [this] at h

theorem step_other {acc l : List UInt8} {c : UInt8} {b : Bool} {r : List UInt8} (h : acc ++ osp b (c :: l) = r) (hc : isBl c = false) : (acc ++ [c]) ++ osp false l = r := by
  rw [← h]; simp [osp, hc]
theorem step_first {acc l : List UInt8} {c : UInt8} {r : List UInt8} (h : acc ++ osp false (c :: l) = r) (hc : isBl c = true) : (acc ++ [32]) ++ osp true l = r := by
  rw [← h]; simp [osp, hc]
theorem step_more {acc l : List UInt8} {c : UInt8} {r : List UInt8} (h : acc ++ osp true (c :: l) = r) (hc : isBl c = true) : acc ++ osp true l = r := by
  rw [← h]; simp [osp, hc]
theorem cells_snoc (acc : List UInt8) (c : UInt8) : Lib.byteCells (acc ++ [c]) = Lib.byteCells acc ++ [.int .u8 c.toNat] := by
  rw [Lib.byteCells_append]; rfl

set_option maxHeartbeats 1000000 in
set_option maxRecDepth 100000 in
theorem oneSpace (s : ByteArray) (w : World) (hs : s.size ≤ 35184372088832) :
    Calls Try.prog 19 #[.string s] w fun e w' => e = .returned (.string ⟨(osp false s.data.toList).toArray⟩) ∧ Below w.heap.size w w' := by
  go_enter Try.func19, Try.ntmps19
  go_wp2
  go_loopw [4, 5] (fun bl i wr => ∃ (k : Nat) (b : Bool) (acc : List UInt8), k ≤ s.size ∧ i = .int .i64 k ∧ bl = .bool b ∧ Lib.IsBuilder 36 5 w.heap.size w.heap.size (Lib.byteCells acc) wr ∧ Below w.heap.size w wr ∧ acc ++ osp b (s.data.toList.drop k) = osp false s.data.toList ∧ acc.length ≤ k) (fun _ i _ => s.size - (intOf i).toNat)
  case atStart =>
    exact ⟨0, false, [], Nat.zero_le _, rfl, rfl, fresh36 w, (Below.refl _ w).alloc (Nat.le_refl _) _, rfl, Nat.le_refl _⟩
  case round =>
    obtain ⟨k, b, acc, hk, rfl, rfl, hI, hbw, hacc, hal⟩ := hrel
    have hsz := hbw.size
    have HA : Hid (acc ++ osp b (s.data.toList.drop k) = osp false s.data.toList) := hacc
    clear hacc
    by_cases hlt : k < s.size
    · rw [drop_cons s k hlt] at HA
      have hl : (Lib.byteCells acc).length + 1 ≤ 140737488355328 := by rw [Lib.byteCells_length]; omega
      by_cases hbl : isBl s[k] = true
      · have hcase : ((s[k].toNat : Int) == 32) = true ∨ (((s[k].toNat : Int) == 32) = false ∧ ((s[k].toNat : Int) == 9) = true) := blank_cases hbl
        cases b with
        | true =>
          have R := step_more HA.out hbl
          have HR : Hid (acc ++ osp true (s.data.toList.drop (k + 1)) = osp false s.data.toList) := R
          clear R HA hbl
          rcases hcase with h32 | ⟨h32, h9⟩
          all_goals
            go_wp2
            go_roundw
            case rel => exact ⟨k + 1, true, acc, by omega, by go_num, rfl, hI, hbw, HR.out, by omega⟩
            case measure => simp [intOf]; omega
        | false =>
          have R := step_first HA.out hbl
          have HR : Hid ((acc ++ [32]) ++ osp true (s.data.toList.drop (k + 1)) = osp false s.data.toList) := R
          clear R HA hbl
          rcases hcase with h32 | ⟨h32, h9⟩
          all_goals
            go_wp2_with (go_at_call 21; refine (writeByte w.heap.size w.heap.size _ 32 _ hI hl hsz).mono ?_)
            rintro e W1 ⟨rfl, h1, b1⟩
            go_wp2
            go_roundw
            case rel => exact ⟨k + 1, true, acc ++ [32], by omega, by go_num, rfl, Or.inr (by rw [cells_snoc]; exact h1), hbw.trans b1, HR.out, by simp; omega⟩
            case measure => simp [intOf]; omega
      · have hbl' : isBl s[k] = false := by simpa using hbl
        obtain ⟨h32, h9⟩ := other_cases hbl'
        have R := step_other HA.out hbl'
        have HR : Hid ((acc ++ [s[k]]) ++ osp false (s.data.toList.drop (k + 1)) = osp false s.data.toList) := R
        clear R HA hbl hbl'
        go_wp2_with (go_at_call 21; refine (writeByte w.heap.size w.heap.size _ _ _ hI hl hsz).mono ?_)
        rintro e W1 ⟨rfl, h1, b1⟩
        go_wp2
        go_roundw
        case rel => exact ⟨k + 1, false, acc ++ [s[k]], by omega, by go_num, rfl, Or.inr (by rw [cells_snoc]; exact h1), hbw.trans b1, HR.out, by simp; omega⟩
        case measure => simp [intOf]; omega
    · go_wp2_with (go_at_call 22; refine (builder_string w.heap.size w.heap.size acc _ hI (by omega)).mono ?_)
      rintro e W1 ⟨rfl, b1⟩
      go_wp2
      go_ret
      have hacc := HA.out
      rw [List.drop_of_length_le (by simp; omega)] at hacc
      simp [osp] at hacc
      subst hacc
      exact ⟨rfl, hbw.trans b1⟩
end Go.Proofs.Qxb6617128a
