import Derived.Test.Qxb6617729aPage
namespace Go.Proofs.Qxb6617729a
open Go.RowKit

theorem cross_out (x y : Int) (w : World) (h : x < 0 ∨ (0 ≤ x ∧ 9223372036854771711 < x) ∨ (0 ≤ x ∧ x ≤ 9223372036854771711 ∧ y < 0) ∨ (0 ≤ x ∧ x ≤ 9223372036854771711 ∧ 0 ≤ y ∧ 9223372036854771711 < y)) :
    Calls Try.prog 4 #[.int .i64 x, .int .i64 y] w fun e w' => e = .returned (.bool true) ∧ w' = w := by
  rcases h with h | ⟨h, h2⟩ | ⟨h, h2, h3⟩ | ⟨h, h2, h3, h4⟩
  all_goals
    go_enter Try.func4, Try.ntmps4
    go_wp2
    go_ret
    exact ⟨rfl, rfl⟩

theorem cross_in (x y : Int) (w : World) (h0 : 0 ≤ x) (h1 : x ≤ 9223372036854771711) (h2 : 0 ≤ y) (h3 : y ≤ 9223372036854771711) :
    Calls Try.prog 4 #[.int .i64 x, .int .i64 y] w fun e w' => e = .returned (.bool true) ∧ w' = w := by
  obtain ⟨r, hr⟩ : ∃ r, x - x % 4096 + 4096 = r := ⟨_, rfl⟩
  obtain ⟨s, hs⟩ : ∃ s, y - y % 4096 + 4096 = s := ⟨_, rfl⟩
  have b1 : x < r := by omega
  have b2 : r - x ≤ 4096 := by omega
  have b3 : r ≤ 9223372036854771712 := by omega
  have c1 : y < s := by omega
  have c2 : s - y ≤ 4096 := by omega
  have c3 : s ≤ 9223372036854771712 := by omega
  have mr : (r % 4096 != 0) = false := by have : r % 4096 = 0 := by omega
                                          rw [this]; rfl
  have ms : (s % 4096 != 0) = false := by have : s % 4096 = 0 := by omega
                                          rw [this]; rfl
  have HR := hid hr
  have HS := hid hs
  by_cases hc : y < x
  · have ho : s ≤ r := by omega
    have he : ((r - s : Int) == (x / 4096 - y / 4096) * 4096) = true := by rw [beq_iff_eq]; omega
    clear hr hs
    go_enter Try.func4, Try.ntmps4
    go_wp2_with fail
    refine (zzPageEnd y s w h2 h3 HS).mono ?_
    rintro e w1 ⟨rfl, hw⟩
    obtain rfl := hw.symm
    clear hw
    go_wp2_with fail
    refine (zzPageEnd x r w h0 h1 HR).mono ?_
    rintro e w1 ⟨rfl, hw⟩
    obtain rfl := hw.symm
    clear hw
    go_wp2
    go_ret
    exact ⟨rfl, rfl⟩
  · have ho : r ≤ s := by omega
    have he : ((s - r : Int) == (y / 4096 - x / 4096) * 4096) = true := by rw [beq_iff_eq]; omega
    clear hr hs
    go_enter Try.func4, Try.ntmps4
    go_wp2_with fail
    refine (zzPageEnd x r w h0 h1 HR).mono ?_
    rintro e w1 ⟨rfl, hw⟩
    obtain rfl := hw.symm
    clear hw
    go_wp2_with fail
    refine (zzPageEnd y s w h2 h3 HS).mono ?_
    rintro e w1 ⟨rfl, hw⟩
    obtain rfl := hw.symm
    clear hw
    go_wp2
    go_ret
    exact ⟨rfl, rfl⟩
end Go.Proofs.Qxb6617729a
