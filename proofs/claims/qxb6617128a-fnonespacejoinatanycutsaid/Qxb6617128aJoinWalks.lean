import Derived.Test.Qxb6617128aModel
import Derived.Test.Qxb6617128aJoinPlain
namespace Go.Proofs.Qxb6617128a
open Go.RowKit

theorem isBlank (c : UInt8) (w : World) :
    Calls Try.prog 10 #[.int .u8 c.toNat] w fun e w' => e = .returned (.bool (isBl c)) ∧ w' = w := by
  by_cases hb : isBl c = true
  · rw [hb]
    rcases blank_cases hb with h | ⟨h, h2⟩
    all_goals
      clear hb
      go_enter Try.func10, Try.ntmps10
      go_wp2
      go_ret
      exact ⟨rfl, rfl⟩
  · have hb' : isBl c = false := by simpa using hb
    rw [hb']
    obtain ⟨h, h2⟩ := other_cases hb'
    clear hb hb'
    go_enter Try.func10, Try.ntmps10
    go_wp2
    go_ret
    exact ⟨rfl, rfl⟩

theorem byte_eq9 (c : UInt8) : ((c.toNat : Int) == 9) = (c == 9) := by
  by_cases h : c = 9
  · subst h; decide
  · have e : (c == 9) = false := by simpa using h
    rw [e, beq_eq_false_iff_ne]; intro e
    exact h (UInt8.toNat_inj.1 (by simp; omega))
theorem byte_eq32' (c : UInt8) : ((c.toNat : Int) == 32) = (c == 32) := by
  rw [byte_eq32]; by_cases h : c = 32 <;> simp [h]

set_option maxHeartbeats 400000 in
theorem hasTab (s : ByteArray) (w : World) (hs : s.size ≤ 35184372088832) :
    Calls Try.prog 11 #[.string s] w fun e w' => e = .returned (.bool (tabIn s.data.toList)) ∧ w' = w := by
  go_enter Try.func11, Try.ntmps11
  go_wp2
  go_loop [3] (fun i => ∃ k : Nat, k ≤ s.size ∧ i = .int .i64 k ∧ tabIn (s.data.toList.drop k) = tabIn s.data.toList) (fun i => s.size - (intOf i).toNat)
  case atStart => exact ⟨0, Nat.zero_le _, rfl, rfl⟩
  case round =>
    obtain ⟨k, hk, rfl, hany⟩ := hrel
    have HA : Hid (tabIn (s.data.toList.drop k) = tabIn s.data.toList) := hany
    clear hany
    by_cases hlt : k < s.size
    · rw [drop_cons s k hlt] at HA
      have e9 := byte_eq9 s[k]
      by_cases h9 : (s[k] == 9) = true
      · have h9' : ((s[k].toNat : Int) == 9) = true := by rw [e9]; exact h9
        have HF : Hid (tabIn s.data.toList = true) := by rw [← HA.out, tabIn_cons, h9]; rfl
        clear HA e9 h9
        go_wp2
        go_ret
        rw [HF.out]
        exact ⟨rfl, rfl⟩
      · have h9f : (s[k] == 9) = false := by simpa using h9
        have h9' : ((s[k].toNat : Int) == 9) = false := by rw [e9]; exact h9f
        have HF : Hid (tabIn (s.data.toList.drop (k + 1)) = tabIn s.data.toList) := by rw [← HA.out, tabIn_cons, h9f]; rfl
        clear HA e9 h9 h9f
        go_wp2
        go_round
        case rel => exact ⟨k + 1, by omega, by go_num, HF.out⟩
        case measure => simp [intOf]; omega
    · have HF : Hid (tabIn s.data.toList = false) := by rw [← HA.out, List.drop_of_length_le (by simp; omega)]; rfl
      clear HA
      go_wp2
      go_ret
      rw [HF.out]
      exact ⟨rfl, rfl⟩

theorem nb_keep {t : Bool} {acc l : List UInt8} {c : UInt8} {r : List UInt8} (h : acc ++ nb t (c :: l) = r) (hc : nbF t c = false) : (acc ++ [c]) ++ nb t l = r := by
  rw [← h]; simp [nb, hc]
theorem nb_drop {t : Bool} {acc l : List UInt8} {c : UInt8} {r : List UInt8} (h : acc ++ nb t (c :: l) = r) (hc : nbF t c = true) : acc ++ nb t l = r := by
  rw [← h]; simp [nb, hc]

theorem rel_push1 {w wq w4 : World} {g n : Nat} {acc : List UInt8} {x : UInt8} {o : Obj}
    (ho : wq.ownsRow w.heap.size 5 1 (.slice (some ⟨g, 0, none⟩) acc.length n) acc.length (Lib.byteCells acc))
    (ho4 : w4.ownsRow w.heap.size 5 1 (.slice (some ⟨g, 0, none⟩) (acc.length + 1) n) (acc.length + 1) (Lib.byteCells acc ++ [.int .u8 x.toNat]))
    (hg4 : (wq.alloc o).grownBy w4 (some g)) (hbq : Below w.heap.size w wq) :
    w4.ownsRow w.heap.size 5 1 (.slice (some ⟨g, 0, none⟩) (acc ++ [x]).length n) (acc ++ [x]).length (Lib.byteCells (acc ++ [x])) ∧ Below w.heap.size w w4 := by
  have hgB := (ho.lt g rfl).1
  refine ⟨?_, ?_⟩
  · rw [cells_snoc]; simpa using ho4
  · exact (hbq.alloc hbq.size o).grown hg4 (by simp; have := hbq.size; omega) (fun k hk => by simp at hk; omega)

set_option maxHeartbeats 1000000 in
set_option maxRecDepth 100000 in
theorem nonBlank (s : ByteArray) (t : Bool) (w : World) (hs : s.size ≤ 35184372088832) :
    Calls Try.prog 12 #[.string s, .bool t] w fun e w' => e = .returned (.string ⟨(nb t s.data.toList).toArray⟩) ∧ Below w.heap.size w w' := by
  obtain ⟨i0, hi, hz0, hz1, hz2⟩ := info_parts infoByte
  have hml : s.size ≤ maxLen := by unfold maxLen; omega
  go_enter Try.func12, Try.ntmps12
  go_wp2_with (at_make; refine wpList_make_own _ rfl _ _ 27 rfl w.heap.size 5 i0 (.int .u8 0) 1 Try.underlying27 hi hz0 hz1 .i64 .i64 _ s.size rfl rfl rfl (by rw [hz2]; omega) hml (Nat.le_refl _) ?_; intro w0 hown0 hgrow0)
  have hB0 : Below w.heap.size w w0 := (Below.refl _ w).grown hgrow0 (Nat.le_refl _) (by simp)
  clear hgrow0
  go_wp2
  go_loopw [5, 6] (fun out i wr => ∃ (k : Nat) (acc : List UInt8), k ≤ s.size ∧ i = .int .i64 k ∧ acc.length ≤ k ∧ out = .slice (some ⟨w.heap.size, 0, none⟩) acc.length s.size ∧ wr.ownsRow w.heap.size 5 1 (.slice (some ⟨w.heap.size, 0, none⟩) acc.length s.size) acc.length (Lib.byteCells acc) ∧ Below w.heap.size w wr ∧ acc ++ nb t (s.data.toList.drop k) = nb t s.data.toList) (fun _ i _ => s.size - (intOf i).toNat)
  case atStart => exact ⟨0, [], Nat.zero_le _, rfl, Nat.le_refl _, rfl, hown0, hB0, rfl⟩
  case round =>
    obtain ⟨k, acc, hk, rfl, hal, rfl, ho, hbq, hacc⟩ := hrel
    have HA : Hid (acc ++ nb t (s.data.toList.drop k) = nb t s.data.toList) := hacc
    clear hacc hown0 hB0
    by_cases hlt : k < s.size
    · rw [drop_cons s k hlt] at HA
      have e9 := byte_eq9 s[k]
      have e32 := byte_eq32' s[k]
      have hcase : (nbF t s[k] = true ∧ ((s[k] == 32) = true ∨ ((s[k] == 32) = false ∧ t = true ∧ (s[k] == 9) = true))) ∨ (nbF t s[k] = false ∧ (s[k] == 32) = false ∧ (t = false ∨ (t = true ∧ (s[k] == 9) = false))) := by
        unfold nbF; cases t <;> cases (s[k] == 32) <;> cases (s[k] == 9) <;> simp
      rcases hcase with ⟨hn, hd⟩ | ⟨hn, h3, hd⟩
      · have HR : Hid (acc ++ nb t (s.data.toList.drop (k + 1)) = nb t s.data.toList) := nb_drop HA.out hn
        clear HA hn
        rcases hd with h3 | ⟨h3, rfl, h9⟩
        · rw [h3] at e32
          clear e9 h3
          go_wp2
          go_roundw
          case rel => exact ⟨k + 1, acc, by omega, by go_num, by omega, rfl, ho, hbq, HR.out⟩
          case measure => simp [intOf]; omega
        · rw [h3] at e32
          rw [h9] at e9
          clear h3 h9
          go_wp2
          go_roundw
          case rel => exact ⟨k + 1, acc, by omega, by go_num, by omega, rfl, ho, hbq, HR.out⟩
          case measure => simp [intOf]; omega
      · have HR : Hid ((acc ++ [s[k]]) ++ nb t (s.data.toList.drop (k + 1)) = nb t s.data.toList) := nb_keep HA.out hn
        rw [h3] at e32
        clear HA hn h3
        rcases hd with rfl | ⟨rfl, h9⟩
        · clear e9
          go_wp2_with (at_builtin; refine wpList_append_fits _ rfl _ _ 27 rfl w.heap.size 5 i0 1 Try.underlying27 hi hz1 w.heap.size acc.length s.size _ rfl (ho.alloc _) ⟨wr.heap.size, 0, none⟩ 1 1 [.int .u8 s[k].toNat] rfl rfl (one_new _ _ _) (one_cell _) (by omega) ?_; intro w4 ho4 hg4)
          have R := rel_push1 ho ho4 hg4 hbq
          clear ho4 hg4 ho
          go_wp2
          go_roundw
          case rel => exact ⟨k + 1, acc ++ [s[k]], by omega, by go_num, by simp; omega, by simp, R.1, R.2, HR.out⟩
          case measure => simp [intOf]; omega
        · rw [h9] at e9
          clear h9
          go_wp2_with (at_builtin; refine wpList_append_fits _ rfl _ _ 27 rfl w.heap.size 5 i0 1 Try.underlying27 hi hz1 w.heap.size acc.length s.size _ rfl (ho.alloc _) ⟨wr.heap.size, 0, none⟩ 1 1 [.int .u8 s[k].toNat] rfl rfl (one_new _ _ _) (one_cell _) (by omega) ?_; intro w4 ho4 hg4)
          have R := rel_push1 ho ho4 hg4 hbq
          clear ho4 hg4 ho
          go_wp2
          go_roundw
          case rel => exact ⟨k + 1, acc ++ [s[k]], by omega, by go_num, by simp; omega, by simp, R.1, R.2, HR.out⟩
          case measure => simp [intOf]; omega
    · have hcv := run_convert_bytes_back (P := Try.prog) wr 27 9 5 ⟨w.heap.size, 0, none⟩ s.size acc Try.underlying27 Try.underlying5 Try.underlying9 (cellsOf ho rfl)
      go_wp2
      go_ret
      have hacc := HA.out
      rw [List.drop_of_length_le (by simp; omega)] at hacc
      have e0 : nb t [] = [] := rfl
      rw [e0, List.append_nil] at hacc
      subst hacc
      exact ⟨rfl, hbq⟩
end Go.Proofs.Qxb6617128a
