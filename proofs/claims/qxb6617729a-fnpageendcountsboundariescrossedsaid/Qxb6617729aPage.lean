import Derived.Test.Qxb6617729aProg
import Derived.WalkKit
namespace Go.Proofs.Qxb6617729a
open Go.RowKit

theorem hid {p : Prop} (h : p) : Hid p := h

theorem pageEnd (x : Int) (w : World) (h0 : 0 ≤ x) (h1 : x ≤ 9223372036854771711) :
    Calls Try.prog 6 #[.int .i64 x] w fun e w' => e = .returned (.int .i64 (x - x % 4096 + 4096)) ∧ w' = w := by
  go_enter Try.func6, Try.ntmps6
  go_wp2
  go_ret
  exact ⟨rfl, rfl⟩

theorem zzPageEnd (x r : Int) (w : World) (h0 : 0 ≤ x) (h1 : x ≤ 9223372036854771711) (hr : Hid (x - x % 4096 + 4096 = r)) :
    Calls Try.prog 5 #[.int .i64 x] w fun e w' => e = .returned (.int .i64 r) ∧ w' = w := by
  rw [← hr.out]
  have H := hid (pageEnd x w h0 h1)
  go_enter Try.func5, Try.ntmps5
  go_wp2_with fail
  refine H.out.mono ?_
  rintro e w1 ⟨rfl, rfl⟩
  go_wp2
  go_ret
  exact ⟨rfl, rfl⟩

theorem least_out (x : Int) (w : World) (h : x < 0 ∨ (0 ≤ x ∧ 9223372036854771711 < x)) :
    Calls Try.prog 3 #[.int .i64 x] w fun e w' => e = .returned (.bool true) ∧ w' = w := by
  rcases h with h | ⟨h, h2⟩
  all_goals
    go_enter Try.func3, Try.ntmps3
    go_wp2
    go_ret
    exact ⟨rfl, rfl⟩

theorem least_in (x : Int) (w : World) (h0 : 0 ≤ x) (h1 : x ≤ 9223372036854771711) :
    Calls Try.prog 3 #[.int .i64 x] w fun e w' => e = .returned (.bool true) ∧ w' = w := by
  obtain ⟨r, hr⟩ : ∃ r, x - x % 4096 + 4096 = r := ⟨_, rfl⟩
  have b1 : x < r := by omega
  have b2 : r - 4096 ≤ x := by omega
  have b3 : r ≤ 9223372036854771712 := by omega
  have b4 : 4096 ≤ r := by omega
  have hm : r % 4096 = 0 := by omega
  have HR := hid hr
  have HM := hid hm
  have hb : (r % 4096 != 0) = false := by rw [hm]; rfl
  clear hr hm
  by_cases hc : r ≤ 9223372036854771711
  · have H2 := hid (zzPageEnd r (r + 4096) w (by omega) hc (hid (by have := HM.out; omega)))
    have hn : (r + 4096 != r + 4096) = false := by simp
    go_enter Try.func3, Try.ntmps3
    go_wp2_with fail
    refine (zzPageEnd x r w h0 h1 HR).mono ?_
    rintro e w1 ⟨rfl, hw⟩
    obtain rfl := hw.symm
    clear hw
    go_wp2_with fail
    refine H2.out.mono ?_
    rintro e w1 ⟨rfl, hw⟩
    obtain rfl := hw.symm
    clear hw
    go_wp2
    go_ret
    exact ⟨rfl, rfl⟩
  · go_enter Try.func3, Try.ntmps3
    go_wp2_with fail
    refine (zzPageEnd x r w h0 h1 HR).mono ?_
    rintro e w1 ⟨rfl, hw⟩
    obtain rfl := hw.symm
    clear hw
    go_wp2
    go_ret
    exact ⟨rfl, rfl⟩
end Go.Proofs.Qxb6617729a
