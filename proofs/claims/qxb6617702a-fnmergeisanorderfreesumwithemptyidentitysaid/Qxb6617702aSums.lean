import Derived.Test.Qxb6617702aLawParts
namespace Go.Proofs.Qxb6617702a
open Go.RowKit

theorem wrap_l (x y : Int) : wrap64 (wrap64 x + y) = wrap64 (x + y) := by unfold wrap64; omega
theorem wrap_r (x y : Int) : wrap64 (x + wrap64 y) = wrap64 (x + y) := by unfold wrap64; omega
theorem wrap_w (x : Int) : wrap64 (wrap64 x) = wrap64 x := by unfold wrap64; omega

/-- a sum in int64 -/
def sumTo (f : Nat → Int) : Nat → Int
  | 0 => 0
  | k + 1 => wrap64 (sumTo f k + f k)

theorem sum_mix (fa fb fc : Nat → Int) (k : Nat) : sumTo (fun i => wrap64 (wrap64 (fa i + fb i) + fc i)) k = wrap64 (wrap64 (sumTo fa k + sumTo fb k) + sumTo fc k) := by
  induction k with
  | zero => simp only [sumTo]; unfold wrap64; omega
  | succ k ih =>
    simp only [sumTo, ih]
    simp only [wrap_l, wrap_r]
    have : sumTo fa k + sumTo fb k + sumTo fc k + (fa k + fb k + fc k) = sumTo fa k + fa k + (sumTo fb k + fb k) + (sumTo fc k + fc k) := by omega
    rw [this]

theorem mix_y (a b c : Int) : wrap64 (wrap64 (c + a) + b) = wrap64 (wrap64 (a + b) + c) := by
  rw [wrap_l, wrap_l, show c + a + b = a + b + c from by omega]
theorem mix_w (a b c : Int) : wrap64 (a + wrap64 (b + c)) = wrap64 (wrap64 (a + b) + c) := by
  rw [wrap_l, wrap_r, show a + (b + c) = a + b + c from by omega]
end Go.Proofs.Qxb6617702a
