import Derived.Test.Qxb6617702aCalls
namespace Go.Proofs.Qxb6617702a
open Go.RowKit

/-- w' is w but for block g, which holds a latencies -/
structure Puts (g : Nat) (f : Nat → Int) (n : Int) (w w' : World) : Prop where
  os : w'.os = w.os
  tape : w'.tape = w.tape
  output : w'.output = w.output
  size : w'.heap.size = w.heap.size
  same : ∀ j, j ≠ g → w'.heap[j]? = w.heap[j]?
  holds : Lat w' g f n

theorem Puts.refl {g : Nat} {f : Nat → Int} {n : Int} {w : World} (h : Lat w g f n) : Puts g f n w w := ⟨rfl, rfl, rfl, rfl, fun _ _ => rfl, h⟩
theorem Puts.drew {g : Nat} {f : Nat → Int} {n : Int} {w w' : World} (h : Puts g f n w w') : Puts g f n w w'.drew := ⟨h.os, h.tape, h.output, h.size, h.same, h.holds⟩
theorem Puts.other {g : Nat} {f : Nat → Int} {n : Int} {w w' : World} (h : Puts g f n w w') {j : Nat} {f2 : Nat → Int} {n2 : Int} (hj : Lat w j f2 n2) (hne : j ≠ g) : Lat w' j f2 n2 := (h.same j hne).trans hj

/-- the first k numbers changed -/
def mix (f f2 : Nat → Int) (k : Nat) : Nat → Int := fun i => if i < k then wrap64 (f i + f2 i) else f i

theorem lat_congr {f g : Nat → Int} {n m : Int} (h : ∀ i, i < 3776 → f i = g i) (hn : n = m) : lat f n = lat g m := by
  unfold lat; rw [arr_congr h, hn]

theorem lat_of (cs : Array Value) (f : Nat → Int) (n : Int) (hs : cs.size = 3777) (h : ∀ i, i < 3776 → cs[i]? = some (.int .i64 (f i))) (hn : cs[3776]? = some (.int .i64 n)) : cs = lat f n := by
  apply Array.ext_getElem?
  intro i
  by_cases hi : i < 3776
  · rw [h i hi, lat_get f n i hi]
  · by_cases e : i = 3776
    · rw [e, hn, lat_last]
    · rw [Array.getElem?_eq_none (by omega), Array.getElem?_eq_none (by rw [lat_size]; omega)]

theorem set_mix (f f2 : Nat → Int) (n : Int) (k : Nat) (hk : k < 3776) : (lat (mix f f2 k) n).setIfInBounds k (.int .i64 (wrap64 (f k + f2 k))) = lat (mix f f2 (k + 1)) n := by
  refine lat_of _ _ _ (by rw [Array.size_setIfInBounds, lat_size]) (fun i hi => ?_) ?_
  · by_cases e : i = k
    · subst e
      rw [Array.getElem?_setIfInBounds_self_of_lt (by rw [lat_size]; omega)]
      simp [mix]
    · rw [Array.getElem?_setIfInBounds_ne (fun h => e h.symm), lat_get _ _ i hi]
      unfold mix
      by_cases h : i < k
      · rw [if_pos h, if_pos (by omega)]
      · rw [if_neg h, if_neg (by omega)]
  · rw [Array.getElem?_setIfInBounds_ne (by omega)]
    exact lat_last _ _

theorem set_last (f : Nat → Int) (n m : Int) : (lat f n).setIfInBounds 3776 (.int .i64 m) = lat f m := by
  refine lat_of _ _ _ (by rw [Array.size_setIfInBounds, lat_size]) (fun i hi => ?_) ?_
  · rw [Array.getElem?_setIfInBounds_ne (by omega)]; exact lat_get _ _ i hi
  · rw [Array.getElem?_setIfInBounds_self_of_lt (by rw [lat_size]; omega)]

theorem puts_cell {g k : Nat} {f f' : Nat → Int} {n n' : Int} {w w' : World} {v : Value} (h : Puts g f n w w') (hs : (lat f n).setIfInBounds k v = lat f' n') : Puts g f' n' w (w'.setCell ⟨g, k, none⟩ v) :=
  ⟨h.os, h.tape, h.output, by simpa [World.setCell] using h.size, fun j hj => (heap_setCell_other w' ⟨g, k, none⟩ j v hj).trans (h.same j hj), by
    have := heap_setCell_same w' g k (lat f n) 30 v h.holds
    rw [hs] at this; exact this⟩

theorem lat_same {w : World} {g : Nat} {f f' : Nat → Int} {n : Int} (h : Lat w g f n) (hf : ∀ i, i < 3776 → f i = f' i) : Lat w g f' n := by
  unfold Lat at *; rw [h, lat_congr hf rfl]

set_option maxHeartbeats 1000000 in
set_option maxRecDepth 100000 in
theorem merge (g h : Nat) (f f2 : Nat → Int) (n n2 : Int) (w : World) (hg : Lat w g f n) (hh : Lat w h f2 n2) (hne : h ≠ g) :
    Calls Try.prog 8 #[.pointer (some ⟨g, 0, none⟩), .pointer (some ⟨h, 0, none⟩)] w fun e w' => e = .returned (.tuple #[]) ∧ Puts g (fun i => wrap64 (f i + f2 i)) (wrap64 (n + n2)) w w' := by
  have HG := (show Hid (Lat w g f n) from hg)
  have HH := (show Hid (w.heap[h]? = some (.cells (lat f2 n2) 30 (0, 0))) from hh)
  have HL := (show Hid (Lat w h f2 n2) from hh)
  clear hg hh
  go_enter Try.func8, Try.ntmps8
  go_wp2_with (refine wpList_load22 rfl _ rfl h rfl (lat f2 n2) 30 (0, 0) f2 HH.out (lat_get f2 n2) ?_)
  go_loopw [10] (fun i wr => ∃ k : Nat, k ≤ 3776 ∧ i = .int .i64 k ∧ Puts g (mix f f2 k) n w wr) (fun i _ => 3776 - (intOf i).toNat)
  case atStart => exact ⟨0, Nat.zero_le _, rfl, Puts.refl (lat_same HG.out (fun i _ => by simp [mix]))⟩
  case round =>
    obtain ⟨k, hk, rfl, hP⟩ := hrel
    have HP := (show Hid (Puts g (mix f f2 k) n w wr) from hP)
    by_cases hlt : k < 3776
    · have hix := run_index22 f2 k hlt
      have hc : wr.cell? ⟨g, k, none⟩ = some (.int .i64 (f k)) := by have := hP.holds.cell k hlt; simpa [mix] using this
      have hf := hP.holds.free k
      clear hP
      go_wp2
      go_region
      all_goals
        go_wp2
        go_roundw
        case rel => exact ⟨k + 1, by omega, by go_num, (puts_cell HP.out (set_mix f f2 n k hlt)).drew⟩
        case measure => simp [intOf]; omega
    · have hk2 : k = 3776 := by omega
      have hP2 : Puts g (fun i => wrap64 (f i + f2 i)) n w wr := ⟨hP.os, hP.tape, hP.output, hP.size, hP.same, lat_same hP.holds (fun i hi => by rw [hk2]; simp [mix, hi])⟩
      have HP2 := (show Hid (Puts g (fun i => wrap64 (f i + f2 i)) n w wr) from hP2)
      have hc := hP2.holds.last
      have hf := hP2.holds.free 3776
      have hd := (hP2.other HL.out hne).last
      clear hP hk2 hP2
      go_wp2
      go_region
      all_goals
        go_wp2
        go_end0
        exact ⟨rfl, (puts_cell HP2.out (set_last _ n (wrap64 (n + n2)))).drew⟩

/-- ZZMerge -/
theorem zzMerge (g h : Nat) (f f2 : Nat → Int) (n n2 : Int) (w : World) (hg : Lat w g f n) (hh : Lat w h f2 n2) (hne : h ≠ g) :
    Calls Try.prog 5 #[.pointer (some ⟨g, 0, none⟩), .pointer (some ⟨h, 0, none⟩)] w fun e w' => e = .returned (.tuple #[]) ∧ Puts g (fun i => wrap64 (f i + f2 i)) (wrap64 (n + n2)) w w' := by
  have H := (show Hid (∀ W : World, Lat W g f n → Lat W h f2 n2 → Calls Try.prog 8 #[.pointer (some ⟨g, 0, none⟩), .pointer (some ⟨h, 0, none⟩)] W fun e w' => e = .returned (.tuple #[]) ∧ Puts g (fun i => wrap64 (f i + f2 i)) (wrap64 (n + n2)) W w') from fun W a b => merge g h f f2 n n2 W a b hne)
  go_enter Try.func5, Try.ntmps5
  go_wp2_with fail
  refine (H.out w hg hh).mono ?_
  rintro e w1 ⟨rfl, h1⟩
  go_wp2
  go_end0
  exact ⟨rfl, h1⟩
end Go.Proofs.Qxb6617702a
