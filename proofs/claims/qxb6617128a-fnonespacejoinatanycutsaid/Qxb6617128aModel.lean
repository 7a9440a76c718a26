import Derived.Test.Qxb6617128aModelParts
namespace Go.Proofs.Qxb6617128a
open Go.RowKit

set_option maxHeartbeats 1000000 in
set_option maxRecDepth 100000 in
theorem model (s : ByteArray) (w : World) (hs : s.size ≤ 35184372088832) :
    Calls Try.prog 8 #[.string s] w fun e w' => e = .returned (.string ⟨(lastSp (s.data.toList.map detab)).toArray⟩) ∧ Below w.heap.size w w' := by
  obtain ⟨i0, hi, hz0, hz1, hz2⟩ := info_parts infoByte
  have hml : s.size ≤ maxLen := by unfold maxLen; omega
  have hll : s.data.toList.length = s.size := by simp
  go_enter Try.func8, Try.ntmps8
  go_wp2_with (at_make; refine wpList_make_full _ rfl _ _ 27 rfl w.heap.size 5 i0 (.int .u8 0) 1 Try.underlying27 hi hz0 hz1 .i64 .i64 _ _ s.size rfl rfl rfl rfl (by rw [hz2]; omega) hml (Nat.le_refl _) ?_; intro w0 hown0 hgrow0)
  have hB0 : Below w.heap.size w w0 := (Below.refl _ w).grown hgrow0 (Nat.le_refl _) (by simp)
  have hown1 : w0.ownsRow w.heap.size 5 1 (.slice (some ⟨w.heap.size, 0, none⟩) s.size s.size) s.size (filled s.data.toList 0) := by
    rw [filled_zero, hll]
    have e : (madeCells (Value.int .u8 0).cells (s.size * 1)).toList = List.replicate s.size (.int .u8 0) := by
      rw [Nat.mul_one]; exact toList_madeCells_one _ _
    rw [← e]; exact hown0
  clear hown0 hgrow0
  go_wp2
  go_loopw [4] (fun i wr => ∃ (k : Nat), k ≤ s.size ∧ i = .int .i64 k ∧ wr.ownsRow w.heap.size 5 1 (.slice (some ⟨w.heap.size, 0, none⟩) s.size s.size) s.size (filled s.data.toList k) ∧ Below w.heap.size w wr) (fun i _ => s.size - (intOf i).toNat)
  case atStart => exact ⟨0, Nat.zero_le _, rfl, hown1, hB0⟩
  case round =>
    obtain ⟨k, hk, rfl, hown, hbw⟩ := hrel
    by_cases hlt : k < s.size
    · have hkl : k < s.data.toList.length := by omega
      have hcell : wr.cell? ⟨w.heap.size, k, none⟩ = some (.int .u8 0) := by rw [hown.cellAt k (by omega)]; exact filled_at _ k hkl
      have hfz := hown.frozenAt k
      have hst := fun x => hown.stored k x
      have hge : s.data.toList[k] = s[k] := rfl
      by_cases h9 : s[k] = 9
      · have hd : ((s[k].toNat : Int) == 9) = true := by rw [h9]; decide
        have HF : Hid ((filled s.data.toList k).set k (.int .u8 32) = filled s.data.toList (k + 1)) := by
          have := filled_set s.data.toList k hkl; rw [hge, h9] at this; exact this
        clear hge h9
        go_wp2
        go_roundw
        case rel => exact ⟨k + 1, by omega, by go_num, by rw [← HF.out]; exact (hst _).1, hbw.setCell (Nat.le_refl _) _⟩
        case measure => simp [intOf]; omega
      · have hd : ((s[k].toNat : Int) == 9) = false := by
          rw [beq_eq_false_iff_ne]; intro e
          exact h9 (UInt8.toNat_inj.1 (by simp; omega))
        have HF : Hid ((filled s.data.toList k).set k (.int .u8 s[k].toNat) = filled s.data.toList (k + 1)) := by
          have := filled_set s.data.toList k hkl; rw [hge] at this; simp [detab, h9] at this; exact this
        clear hge h9
        go_wp2
        go_roundw
        case rel => exact ⟨k + 1, by omega, by go_num, by rw [← HF.out]; exact (hst _).1, hbw.setCell (Nat.le_refl _) _⟩
        case measure => simp [intOf]; omega
    · have hown2 : wr.ownsRow w.heap.size 5 1 (.slice (some ⟨w.heap.size, 0, none⟩) s.size s.size) s.size (Lib.byteCells (s.data.toList.map detab)) := by
        have : k = s.data.toList.length := by omega
        rw [this, filled_all] at hown; exact hown
      clear hown
      generalize hul : s.data.toList.map detab = ul at *
      have hun : ul.length = s.size := by rw [← hul]; simp
      have HU : Hid (s.data.toList.map detab = ul) := hul
      clear hul
      have hBs : w.heap.size < wr.heap.size := (hown2.lt w.heap.size rfl).2
      go_wp2_with (at_make; refine wpList_make_own _ rfl _ _ 27 rfl (w.heap.size + 1) 5 i0 (.int .u8 0) 1 Try.underlying27 hi hz0 hz1 .i64 .i64 _ s.size rfl rfl rfl (by rw [hz2]; omega) hml hBs ?_; intro w2 hown3 hgrow3)
      have hB2 : Below w.heap.size w w2 := hbw.grown hgrow3 (by omega) (by simp)
      have hu2 := hown2.kept hgrow3 (Or.inr (by simp [Value.ownBlock]))
      have hgs : wr.heap.size < w2.heap.size := (hown3.lt wr.heap.size rfl).2
      clear hown2 hown1 hB0 hbw hgrow3
      generalize hg : wr.heap.size = g at *
      clear hg
      go_wp2
      go_loopw [6, 7] (fun out i wq => ∃ (k : Nat) (acc : List UInt8), k ≤ s.size ∧ i = .int .i64 k ∧ acc.length ≤ k ∧ out = .slice (some ⟨g, 0, none⟩) acc.length s.size ∧ wq.ownsRow w.heap.size 5 1 (.slice (some ⟨w.heap.size, 0, none⟩) s.size s.size) s.size (Lib.byteCells ul) ∧ wq.ownsRow (w.heap.size + 1) 5 1 (.slice (some ⟨g, 0, none⟩) acc.length s.size) acc.length (Lib.byteCells acc) ∧ Below w.heap.size w wq ∧ acc ++ lastSp (ul.drop k) = lastSp ul) (fun _ i _ => s.size - (intOf i).toNat)
      case atStart => exact ⟨0, [], Nat.zero_le _, rfl, Nat.le_refl _, rfl, hu2, hown3, hB2, rfl⟩
      case round =>
        obtain ⟨m, acc, hm, rfl, hal, rfl, hu, ho, hbq, hacc⟩ := hrel
        have HA : Hid (acc ++ lastSp (ul.drop m) = lastSp ul) := hacc
        clear hacc
        have hBq := hbq.size
        by_cases hlt : m < s.size
        · have hmu : m < ul.length := by omega
          have hc1 := cell_bytes hu m hlt hun
          by_cases hnx : m + 1 < s.size
          · have hmu2 : m + 1 < ul.length := by omega
            have hc2 := cell_bytes hu (m + 1) hnx hun
            by_cases ha : ul[m] = 32
            · have ha' : ((ul[m].toNat : Int) == 32) = true := by rw [byte_eq32]; simp [ha]
              by_cases hb : ul[m + 1] = 32
              · have hb' : ((ul[m + 1].toNat : Int) == 32) = true := by rw [byte_eq32]; simp [hb]
                have HR : Hid (acc ++ lastSp (ul.drop (m + 1)) = lastSp ul) := by
                  have := HA.out; rw [lastSp_skip ul m hmu2 ha hb] at this; exact this
                clear ha hb HA
                go_wp2
                go_roundw
                case rel => exact ⟨m + 1, acc, by omega, by go_num, by omega, rfl, hu, ho, hbq, HR.out⟩
                case measure => simp [intOf]; omega
              · have hb' : ((ul[m + 1].toNat : Int) == 32) = false := by rw [byte_eq32]; simp [hb]
                have HR : Hid ((acc ++ [ul[m]]) ++ lastSp (ul.drop (m + 1)) = lastSp ul) := by
                  have := HA.out; rw [lastSp_take ul m hmu (by rintro ⟨_, _, e⟩; exact hb e)] at this; rw [List.append_assoc]; exact this
                clear ha hb HA
                go_wp2_with (at_builtin; refine wpList_append_fits _ rfl _ _ 27 rfl (w.heap.size + 1) 5 i0 1 Try.underlying27 hi hz1 g acc.length s.size _ rfl (ho.alloc _) ⟨wr.heap.size, 0, none⟩ 1 1 [.int .u8 ul[m].toNat] rfl rfl (one_new _ _ _) (one_cell _) (by omega) ?_; intro w4 ho4 hg4)
                have R := rel_push hu ho ho4 hg4 hbq
                clear ho4 hg4 hu ho
                go_wp2
                go_roundw
                case rel => exact ⟨m + 1, acc ++ [ul[m]], by omega, by go_num, by simp; omega, by simp, R.1, R.2.1, R.2.2, HR.out⟩
                case measure => simp [intOf]; omega
            · have ha' : ((ul[m].toNat : Int) == 32) = false := by rw [byte_eq32]; simp [ha]
              have HR : Hid ((acc ++ [ul[m]]) ++ lastSp (ul.drop (m + 1)) = lastSp ul) := by
                have := HA.out; rw [lastSp_take ul m hmu (by rintro ⟨_, e, _⟩; exact ha e)] at this; rw [List.append_assoc]; exact this
              clear ha HA
              go_wp2_with (at_builtin; refine wpList_append_fits _ rfl _ _ 27 rfl (w.heap.size + 1) 5 i0 1 Try.underlying27 hi hz1 g acc.length s.size _ rfl (ho.alloc _) ⟨wr.heap.size, 0, none⟩ 1 1 [.int .u8 ul[m].toNat] rfl rfl (one_new _ _ _) (one_cell _) (by omega) ?_; intro w4 ho4 hg4)
              have R := rel_push hu ho ho4 hg4 hbq
              clear ho4 hg4 hu ho
              go_wp2
              go_roundw
              case rel => exact ⟨m + 1, acc ++ [ul[m]], by omega, by go_num, by simp; omega, by simp, R.1, R.2.1, R.2.2, HR.out⟩
              case measure => simp [intOf]; omega
          · have HR : Hid ((acc ++ [ul[m]]) ++ lastSp (ul.drop (m + 1)) = lastSp ul) := by
              have := HA.out; rw [lastSp_take ul m hmu (by rintro ⟨h, _⟩; omega)] at this; rw [List.append_assoc]; exact this
            clear HA
            by_cases ha' : ((ul[m].toNat : Int) == 32) = true
            · skip
              go_wp2_with (at_builtin; refine wpList_append_fits _ rfl _ _ 27 rfl (w.heap.size + 1) 5 i0 1 Try.underlying27 hi hz1 g acc.length s.size _ rfl (ho.alloc _) ⟨wr.heap.size, 0, none⟩ 1 1 [.int .u8 ul[m].toNat] rfl rfl (one_new _ _ _) (one_cell _) (by omega) ?_; intro w4 ho4 hg4)
              have R := rel_push hu ho ho4 hg4 hbq
              clear ho4 hg4 hu ho
              go_wp2
              go_roundw
              case rel => exact ⟨m + 1, acc ++ [ul[m]], by omega, by go_num, by simp; omega, by simp, R.1, R.2.1, R.2.2, HR.out⟩
              case measure => simp [intOf]; omega
            · have ha2 : ((ul[m].toNat : Int) == 32) = false := by simpa using ha'
              clear ha'
              go_wp2_with (at_builtin; refine wpList_append_fits _ rfl _ _ 27 rfl (w.heap.size + 1) 5 i0 1 Try.underlying27 hi hz1 g acc.length s.size _ rfl (ho.alloc _) ⟨wr.heap.size, 0, none⟩ 1 1 [.int .u8 ul[m].toNat] rfl rfl (one_new _ _ _) (one_cell _) (by omega) ?_; intro w4 ho4 hg4)
              have R := rel_push hu ho ho4 hg4 hbq
              clear ho4 hg4 hu ho
              go_wp2
              go_roundw
              case rel => exact ⟨m + 1, acc ++ [ul[m]], by omega, by go_num, by simp; omega, by simp, R.1, R.2.1, R.2.2, HR.out⟩
              case measure => simp [intOf]; omega
        · have hcv := run_convert_bytes_back (P := Try.prog) wr 27 9 5 ⟨g, 0, none⟩ s.size acc Try.underlying27 Try.underlying5 Try.underlying9 (cellsOf ho rfl)
          go_wp2
          go_ret
          have hacc := HA.out
          rw [List.drop_of_length_le (by omega)] at hacc
          simp [lastSp] at hacc
          subst hacc
          have e : Ending.returned (.string ⟨(lastSp ul).toArray⟩) = .returned (.string ⟨(lastSp (s.data.toList.map detab)).toArray⟩) := by rw [HU.out]
          exact ⟨e, hbq⟩
end Go.Proofs.Qxb6617128a
