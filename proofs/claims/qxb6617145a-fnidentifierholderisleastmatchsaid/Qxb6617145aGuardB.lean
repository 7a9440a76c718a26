import Derived.Test.Qxb6617145aGuardA
namespace Go.Proofs.Qxb6617145a
open Go.RowKit

set_option maxHeartbeats 1000000 in
set_option maxRecDepth 100000 in
theorem guard5_11 (b off n : Nat) (c : Nat) (nm : Nat → ByteArray) (b2 off2 rn : Nat) (rc : Nat) (rt : Nat → ByteArray) (ho : Option Addr) (hn hc : Nat) (id : ByteArray) (rT : ByteArray) (w : World) (hbh : hn ≤ 65536) (hbi : id.size ≤ 1048576) (hbt : rT.size ≤ 1048576) (hbig : n ≤ 65536) (hcN : ∀ i, i < n → w.cell? ⟨b, off + i, none⟩ = some (.string (nm i))) (hbr : rn ≤ 65536) (hcT : ∀ i, i < rn → w.cell? ⟨b2, off2 + i, none⟩ = some (.string (rt i))) :
    Calls Try.prog 5 #[.slice (some ⟨b, off, none⟩) n c, .slice (some ⟨b2, off2, none⟩) rn rc, .slice ho hn hc, .string id, .string rT] w fun e w' => SomeBool e ∧ w' = w := by
  go_enter Try.func5, Try.ntmps5
  go_wp2
  all_goals first
    | (go_ret; exact ⟨⟨true, rfl⟩, rfl⟩)
    | skip
  go_loop [11, 12] (fun z i => ∃ k : Nat, ∃ t : Int, k ≤ n ∧ i = .int .i64 k ∧ z = .int .i64 t) (fun _ i => n - (intOf i).toNat)
  case atStart => exact ⟨0, _, Nat.zero_le _, rfl, rfl⟩
  case round =>
    obtain ⟨k, t, hk, rfl, rfl⟩ := hrel
    by_cases hlt : k < n
    · have hcell := hcN k hlt
      have HN := hid hcN
      clear hcN
      go_wp2
      all_goals first
        | (go_ret; exact ⟨⟨true, rfl⟩, rfl⟩)
        | skip
      go_round
      case rel => exact ⟨k + 1, _, by omega, by go_num, rfl⟩
      case measure => simp [intOf]; omega
    · skip
      go_wp2
      go_loop [11, 13] (fun z i => ∃ k : Nat, ∃ t : Int, k ≤ rn ∧ i = .int .i64 k ∧ z = .int .i64 t) (fun _ i => rn - (intOf i).toNat)
      case atStart => exact ⟨0, _, Nat.zero_le _, rfl, rfl⟩
      case round =>
        obtain ⟨k, t, hk, rfl, rfl⟩ := hrel
        by_cases hlt : k < rn
        · have hcell := hcT k hlt
          have HT := hid hcT
          clear hcT
          go_wp2
          all_goals first
            | (go_ret; exact ⟨⟨true, rfl⟩, rfl⟩)
            | skip
          go_round
          case rel => exact ⟨k + 1, _, by omega, by go_num, rfl⟩
          case measure => simp [intOf]; omega
        · go_wp2
          go_ret
          exact ⟨⟨false, rfl⟩, rfl⟩

set_option maxHeartbeats 1000000 in
set_option maxRecDepth 100000 in
theorem guard5_10 (b off n : Nat) (c : Nat) (nm : Nat → ByteArray) (ro : Option Addr) (rc : Nat) (ho : Option Addr) (hn hc : Nat) (id : ByteArray) (rT : ByteArray) (w : World) (hbh : hn ≤ 65536) (hbi : id.size ≤ 1048576) (hbt : rT.size ≤ 1048576) (hbig : n ≤ 65536) (hcN : ∀ i, i < n → w.cell? ⟨b, off + i, none⟩ = some (.string (nm i))) :
    Calls Try.prog 5 #[.slice (some ⟨b, off, none⟩) n c, .slice ro 0 rc, .slice ho hn hc, .string id, .string rT] w fun e w' => SomeBool e ∧ w' = w := by
  go_enter Try.func5, Try.ntmps5
  go_wp2
  all_goals first
    | (go_ret; exact ⟨⟨true, rfl⟩, rfl⟩)
    | skip
  go_loop [11, 12] (fun z i => ∃ k : Nat, ∃ t : Int, k ≤ n ∧ i = .int .i64 k ∧ z = .int .i64 t) (fun _ i => n - (intOf i).toNat)
  case atStart => exact ⟨0, _, Nat.zero_le _, rfl, rfl⟩
  case round =>
    obtain ⟨k, t, hk, rfl, rfl⟩ := hrel
    by_cases hlt : k < n
    · have hcell := hcN k hlt
      have HN := hid hcN
      clear hcN
      go_wp2
      all_goals first
        | (go_ret; exact ⟨⟨true, rfl⟩, rfl⟩)
        | skip
      go_round
      case rel => exact ⟨k + 1, _, by omega, by go_num, rfl⟩
      case measure => simp [intOf]; omega
    · skip
      go_wp2
      go_loop [11, 13] (fun z i => ∃ k : Nat, ∃ t : Int, k ≤ 0 ∧ i = .int .i64 k ∧ z = .int .i64 t) (fun _ i => 0 - (intOf i).toNat)
      case atStart => exact ⟨0, _, Nat.zero_le _, rfl, rfl⟩
      case round =>
        obtain ⟨k, t, hk, rfl, rfl⟩ := hrel
        have hlt : ¬ k < 0 := Nat.not_lt_zero _
        go_wp2
        go_ret
        exact ⟨⟨false, rfl⟩, rfl⟩

set_option maxHeartbeats 1000000 in
set_option maxRecDepth 100000 in
theorem guard5_01 (ao : Option Addr) (c : Nat) (b2 off2 rn : Nat) (rc : Nat) (rt : Nat → ByteArray) (ho : Option Addr) (hn hc : Nat) (id : ByteArray) (rT : ByteArray) (w : World) (hbh : hn ≤ 65536) (hbi : id.size ≤ 1048576) (hbt : rT.size ≤ 1048576) (hbr : rn ≤ 65536) (hcT : ∀ i, i < rn → w.cell? ⟨b2, off2 + i, none⟩ = some (.string (rt i))) :
    Calls Try.prog 5 #[.slice ao 0 c, .slice (some ⟨b2, off2, none⟩) rn rc, .slice ho hn hc, .string id, .string rT] w fun e w' => SomeBool e ∧ w' = w := by
  go_enter Try.func5, Try.ntmps5
  go_wp2
  all_goals first
    | (go_ret; exact ⟨⟨true, rfl⟩, rfl⟩)
    | skip
  go_loop [11, 12] (fun z i => ∃ k : Nat, ∃ t : Int, k ≤ 0 ∧ i = .int .i64 k ∧ z = .int .i64 t) (fun _ i => 0 - (intOf i).toNat)
  case atStart => exact ⟨0, _, Nat.zero_le _, rfl, rfl⟩
  case round =>
    obtain ⟨k, t, hk, rfl, rfl⟩ := hrel
    have hlt : ¬ k < 0 := Nat.not_lt_zero _
    · skip
      go_wp2
      go_loop [11, 13] (fun z i => ∃ k : Nat, ∃ t : Int, k ≤ rn ∧ i = .int .i64 k ∧ z = .int .i64 t) (fun _ i => rn - (intOf i).toNat)
      case atStart => exact ⟨0, _, Nat.zero_le _, rfl, rfl⟩
      case round =>
        obtain ⟨k, t, hk, rfl, rfl⟩ := hrel
        by_cases hlt : k < rn
        · have hcell := hcT k hlt
          have HT := hid hcT
          clear hcT
          go_wp2
          all_goals first
            | (go_ret; exact ⟨⟨true, rfl⟩, rfl⟩)
            | skip
          go_round
          case rel => exact ⟨k + 1, _, by omega, by go_num, rfl⟩
          case measure => simp [intOf]; omega
        · go_wp2
          go_ret
          exact ⟨⟨false, rfl⟩, rfl⟩

set_option maxHeartbeats 1000000 in
set_option maxRecDepth 100000 in
theorem guard5_00 (ao : Option Addr) (c : Nat) (ro : Option Addr) (rc : Nat) (ho : Option Addr) (hn hc : Nat) (id : ByteArray) (rT : ByteArray) (w : World) (hbh : hn ≤ 65536) (hbi : id.size ≤ 1048576) (hbt : rT.size ≤ 1048576) :
    Calls Try.prog 5 #[.slice ao 0 c, .slice ro 0 rc, .slice ho hn hc, .string id, .string rT] w fun e w' => SomeBool e ∧ w' = w := by
  go_enter Try.func5, Try.ntmps5
  go_wp2
  all_goals first
    | (go_ret; exact ⟨⟨true, rfl⟩, rfl⟩)
    | skip
  go_loop [11, 12] (fun z i => ∃ k : Nat, ∃ t : Int, k ≤ 0 ∧ i = .int .i64 k ∧ z = .int .i64 t) (fun _ i => 0 - (intOf i).toNat)
  case atStart => exact ⟨0, _, Nat.zero_le _, rfl, rfl⟩
  case round =>
    obtain ⟨k, t, hk, rfl, rfl⟩ := hrel
    have hlt : ¬ k < 0 := Nat.not_lt_zero _
    · skip
      go_wp2
      go_loop [11, 13] (fun z i => ∃ k : Nat, ∃ t : Int, k ≤ 0 ∧ i = .int .i64 k ∧ z = .int .i64 t) (fun _ i => 0 - (intOf i).toNat)
      case atStart => exact ⟨0, _, Nat.zero_le _, rfl, rfl⟩
      case round =>
        obtain ⟨k, t, hk, rfl, rfl⟩ := hrel
        have hlt : ¬ k < 0 := Nat.not_lt_zero _
        go_wp2
        go_ret
        exact ⟨⟨false, rfl⟩, rfl⟩

end Go.Proofs.Qxb6617145a
