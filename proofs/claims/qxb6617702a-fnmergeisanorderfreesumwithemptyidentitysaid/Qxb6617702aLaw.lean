import Derived.Test.Qxb6617702aSums
namespace Go.Proofs.Qxb6617702a
open Go.RowKit

set_option maxHeartbeats 4000000 in
set_option maxRecDepth 100000 in
theorem law (fa fb fc : Nat → Int) (an bn cn : Int) (w : World) (ra : Hid (∀ i, i < 3776 → wrap64 (fa i) = fa i)) (rn : Hid (wrap64 an = an)) :
    Calls Try.prog 3 #[.agg (arr fa), .int .i64 an, .agg (arr fb), .int .i64 bn, .agg (arr fc), .int .i64 cn] w fun e w' => e = .returned (.bool true) ∧ Below w.heap.size w w' := by
  have hz := run_zero22
  have B0 := (show Hid (Base w _ fa fb fc) from base0 w fa fb fc)
  go_enter Try.func3, Try.ntmps3
  go_wp2_with (refine wpList_load22 rfl _ rfl w.heap.size rfl (arr fa) 22 (0, 0) fa B0.out.a (arr_get _) ?_)
  refine (mk fa an _).mono ?_
  rintro e W1 ⟨ea, rfl, hge, hL, hb⟩
  have B1 := (show Hid (Base w W1 fa fb fc) from B0.out.below hb)
  have g_ea : w.heap.size + 1 + 1 + 1 < ea := by have := B0.out.lt; omega
  have L_ea_1 := (show Hid (Lat W1 ea fa an) from hL)
  clear B0 hge hL hb 
  go_wp2_with (refine wpList_load22 rfl _ rfl (w.heap.size + 1 + 1 + 1) rfl (arr fun _ => 0) 22 (0, 0) (fun _ => 0) B1.out.z (arr_get _) ?_)
  refine (mk (fun _ => 0) 0 _).mono ?_
  rintro e W2 ⟨e0, rfl, hge, hL, hb⟩
  have B2 := (show Hid (Base w W2 fa fb fc) from B1.out.below hb)
  have g_e0 : w.heap.size + 1 + 1 + 1 < e0 := by have := B1.out.lt; omega
  have ne_ea_e0 : ea ≠ e0 := by have := L_ea_1.out.lt; omega
  have L_ea_2 := (show Hid (Lat W2 ea fa an) from L_ea_1.out.below hb)
  have L_e0_2 := (show Hid (Lat W2 e0 (fun _ => 0) 0) from hL)
  clear B1 hge hL hb L_ea_1
  have M := hid (zzMerge e0 ea (fun _ => 0) fa 0 an W2 L_e0_2.out L_ea_2.out ne_ea_e0)
  go_wp2_with fail
  refine M.out.mono ?_
  rintro e W3 ⟨rfl, hP⟩
  have B3 := (show Hid (Base w W3 fa fb fc) from B2.out.puts hP g_e0)
  have L_ea_3 := (show Hid (Lat W3 ea fa an) from hP.other L_ea_2.out ne_ea_e0)
  have L_e0_3 := (show Hid (Lat W3 e0 fa an) from (by have h := hP.holds; rw [Int.zero_add, rn.out] at h; exact lat_same h (fun i hi => by rw [Int.zero_add]; exact ra.out i hi)))
  clear B2 M hP L_ea_2 L_e0_2
  go_wp2_with fail
  refine region_quiet (by kernel_rfl) ?_
  refine quiet_move rfl _ rfl (.pointer (some ⟨e0, 0, none⟩)) rfl ?_
  go_simp
  refine quiet_call rfl 6 _ _ rfl (.pointer (some ⟨e0, 0, none⟩)) (.agg (arr fa)) rfl (enters6 _) (cls6 L_e0_3.out) ?_
  go_simp
  refine quiet_load rfl _ rfl w.heap.size rfl fa (clsLoad B3.out.a) ?_
  go_simp
  refine quiet_neqA rfl _ _ _ rfl fa rfl rfl ?_
  go_simp
  refine quiet_move rfl _ rfl (.bool false) rfl ?_
  go_simp
  refine quiet_move rfl _ rfl (.pointer (some ⟨e0, 0, none⟩)) rfl ?_
  go_simp
  refine quiet_call rfl 7 _ _ rfl (.pointer (some ⟨e0, 0, none⟩)) (.int .i64 an) rfl (enters7 _) (cls7 L_e0_3.out) ?_
  go_simp
  refine quiet_move rfl _ rfl (.int .i64 an) rfl ?_
  go_simp
  refine quiet_neqI rfl _ _ _ rfl an rfl rfl ?_
  go_simp
  refine quiet_pick rfl _ _ _ rfl rfl (.bool false) rfl ?_
  go_simp
  refine wpQuiet_nil ?_
  intro W4 hb
  have B4 := (show Hid (Base w W4 fa fb fc) from B3.out.below hb)
  have L_ea_4 := (show Hid (Lat W4 ea fa an) from L_ea_3.out.below hb)
  have L_e0_4 := (show Hid (Lat W4 e0 fa an) from L_e0_3.out.below hb)
  clear B3 hb L_ea_3 L_e0_3
  clear L_e0_4
  go_wp2_with fail
  refine region_quiet (by kernel_rfl) ?_
  refine quiet_move rfl _ rfl (.pointer (some ⟨ea, 0, none⟩)) rfl ?_
  go_simp
  refine quiet_call rfl 6 _ _ rfl (.pointer (some ⟨ea, 0, none⟩)) (.agg (arr fa)) rfl (enters6 _) (cls6 L_ea_4.out) ?_
  go_simp
  refine quiet_load rfl _ rfl w.heap.size rfl fa (clsLoad B4.out.a) ?_
  go_simp
  refine quiet_neqA rfl _ _ _ rfl fa rfl rfl ?_
  go_simp
  refine quiet_move rfl _ rfl (.bool false) rfl ?_
  go_simp
  refine quiet_move rfl _ rfl (.pointer (some ⟨ea, 0, none⟩)) rfl ?_
  go_simp
  refine quiet_call rfl 7 _ _ rfl (.pointer (some ⟨ea, 0, none⟩)) (.int .i64 an) rfl (enters7 _) (cls7 L_ea_4.out) ?_
  go_simp
  refine quiet_move rfl _ rfl (.int .i64 an) rfl ?_
  go_simp
  refine quiet_neqI rfl _ _ _ rfl an rfl rfl ?_
  go_simp
  refine quiet_pick rfl _ _ _ rfl rfl (.bool false) rfl ?_
  go_simp
  refine wpQuiet_nil ?_
  intro W5 hb
  have B5 := (show Hid (Base w W5 fa fb fc) from B4.out.below hb)
  have L_ea_5 := (show Hid (Lat W5 ea fa an) from L_ea_4.out.below hb)
  clear B4 hb L_ea_4
  clear L_ea_5
  go_wp2_with (refine wpList_load22 rfl _ rfl w.heap.size rfl (arr fa) 22 (0, 0) fa B5.out.a (arr_get _) ?_)
  refine (mk fa an _).mono ?_
  rintro e W6 ⟨x, rfl, hge, hL, hb⟩
  have B6 := (show Hid (Base w W6 fa fb fc) from B5.out.below hb)
  have g_x : w.heap.size + 1 + 1 + 1 < x := by have := B5.out.lt; omega
  have L_x_6 := (show Hid (Lat W6 x fa an) from hL)
  clear B5 hge hL hb 
  go_wp2_with (refine wpList_load22 rfl _ rfl (w.heap.size + 1) rfl (arr fb) 22 (0, 0) fb B6.out.b (arr_get _) ?_)
  refine (mk fb bn _).mono ?_
  rintro e W7 ⟨xb, rfl, hge, hL, hb⟩
  have B7 := (show Hid (Base w W7 fa fb fc) from B6.out.below hb)
  have g_xb : w.heap.size + 1 + 1 + 1 < xb := by have := B6.out.lt; omega
  have ne_x_xb : x ≠ xb := by have := L_x_6.out.lt; omega
  have L_x_7 := (show Hid (Lat W7 x fa an) from L_x_6.out.below hb)
  have L_xb_7 := (show Hid (Lat W7 xb fb bn) from hL)
  clear B6 hge hL hb L_x_6
  have M := hid (zzMerge x xb fa fb an bn W7 L_x_7.out L_xb_7.out ne_x_xb.symm)
  go_wp2_with fail
  refine M.out.mono ?_
  rintro e W8 ⟨rfl, hP⟩
  have B8 := (show Hid (Base w W8 fa fb fc) from B7.out.puts hP g_x)
  have L_xb_8 := (show Hid (Lat W8 xb fb bn) from hP.other L_xb_7.out ne_x_xb.symm)
  have L_x_8 := (show Hid (Lat W8 x (fun i => wrap64 (fa i + fb i)) (wrap64 (an + bn))) from hP.holds)
  clear B7 M hP L_x_7 L_xb_7
  go_wp2_with fail
  refine region_quiet (by kernel_rfl) ?_
  refine quiet_move rfl _ rfl (.pointer (some ⟨xb, 0, none⟩)) rfl ?_
  go_simp
  refine quiet_call rfl 6 _ _ rfl (.pointer (some ⟨xb, 0, none⟩)) (.agg (arr fb)) rfl (enters6 _) (cls6 L_xb_8.out) ?_
  go_simp
  refine quiet_load rfl _ rfl (w.heap.size + 1) rfl fb (clsLoad B8.out.b) ?_
  go_simp
  refine quiet_neqA rfl _ _ _ rfl fb rfl rfl ?_
  go_simp
  refine quiet_move rfl _ rfl (.bool false) rfl ?_
  go_simp
  refine quiet_move rfl _ rfl (.pointer (some ⟨xb, 0, none⟩)) rfl ?_
  go_simp
  refine quiet_call rfl 7 _ _ rfl (.pointer (some ⟨xb, 0, none⟩)) (.int .i64 bn) rfl (enters7 _) (cls7 L_xb_8.out) ?_
  go_simp
  refine quiet_move rfl _ rfl (.int .i64 bn) rfl ?_
  go_simp
  refine quiet_neqI rfl _ _ _ rfl bn rfl rfl ?_
  go_simp
  refine quiet_pick rfl _ _ _ rfl rfl (.bool false) rfl ?_
  go_simp
  refine wpQuiet_nil ?_
  intro W9 hb
  have B9 := (show Hid (Base w W9 fa fb fc) from B8.out.below hb)
  have L_x_9 := (show Hid (Lat W9 x (fun i => wrap64 (fa i + fb i)) (wrap64 (an + bn))) from L_x_8.out.below hb)
  have L_xb_9 := (show Hid (Lat W9 xb fb bn) from L_xb_8.out.below hb)
  clear B8 hb L_x_8 L_xb_8
  clear L_xb_9
  go_wp2_with (refine wpList_load22 rfl _ rfl (w.heap.size + 1 + 1) rfl (arr fc) 22 (0, 0) fc B9.out.c (arr_get _) ?_)
  refine (mk fc cn _).mono ?_
  rintro e W10 ⟨xc, rfl, hge, hL, hb⟩
  have B10 := (show Hid (Base w W10 fa fb fc) from B9.out.below hb)
  have g_xc : w.heap.size + 1 + 1 + 1 < xc := by have := B9.out.lt; omega
  have ne_x_xc : x ≠ xc := by have := L_x_9.out.lt; omega
  have L_x_10 := (show Hid (Lat W10 x (fun i => wrap64 (fa i + fb i)) (wrap64 (an + bn))) from L_x_9.out.below hb)
  have L_xc_10 := (show Hid (Lat W10 xc fc cn) from hL)
  clear B9 hge hL hb L_x_9
  have M := hid (zzMerge x xc (fun i => wrap64 (fa i + fb i)) fc (wrap64 (an + bn)) cn W10 L_x_10.out L_xc_10.out ne_x_xc.symm)
  go_wp2_with fail
  refine M.out.mono ?_
  rintro e W11 ⟨rfl, hP⟩
  have B11 := (show Hid (Base w W11 fa fb fc) from B10.out.puts hP g_x)
  have L_xc_11 := (show Hid (Lat W11 xc fc cn) from hP.other L_xc_10.out ne_x_xc.symm)
  have L_x_11 := (show Hid (Lat W11 x (fun i => wrap64 (wrap64 (fa i + fb i) + fc i)) (wrap64 (wrap64 (an + bn) + cn))) from hP.holds)
  clear B10 M hP L_x_10 L_xc_10
  go_wp2_with fail
  refine region_quiet (by kernel_rfl) ?_
  refine quiet_move rfl _ rfl (.pointer (some ⟨xc, 0, none⟩)) rfl ?_
  go_simp
  refine quiet_call rfl 6 _ _ rfl (.pointer (some ⟨xc, 0, none⟩)) (.agg (arr fc)) rfl (enters6 _) (cls6 L_xc_11.out) ?_
  go_simp
  refine quiet_load rfl _ rfl (w.heap.size + 1 + 1) rfl fc (clsLoad B11.out.c) ?_
  go_simp
  refine quiet_neqA rfl _ _ _ rfl fc rfl rfl ?_
  go_simp
  refine quiet_move rfl _ rfl (.bool false) rfl ?_
  go_simp
  refine quiet_move rfl _ rfl (.pointer (some ⟨xc, 0, none⟩)) rfl ?_
  go_simp
  refine quiet_call rfl 7 _ _ rfl (.pointer (some ⟨xc, 0, none⟩)) (.int .i64 cn) rfl (enters7 _) (cls7 L_xc_11.out) ?_
  go_simp
  refine quiet_move rfl _ rfl (.int .i64 cn) rfl ?_
  go_simp
  refine quiet_neqI rfl _ _ _ rfl cn rfl rfl ?_
  go_simp
  refine quiet_pick rfl _ _ _ rfl rfl (.bool false) rfl ?_
  go_simp
  refine wpQuiet_nil ?_
  intro W12 hb
  have B12 := (show Hid (Base w W12 fa fb fc) from B11.out.below hb)
  have L_x_12 := (show Hid (Lat W12 x (fun i => wrap64 (wrap64 (fa i + fb i) + fc i)) (wrap64 (wrap64 (an + bn) + cn))) from L_x_11.out.below hb)
  have L_xc_12 := (show Hid (Lat W12 xc fc cn) from L_xc_11.out.below hb)
  clear B11 hb L_x_11 L_xc_11
  clear L_xc_12
  go_wp2_with (refine wpList_load22 rfl _ rfl (w.heap.size + 1 + 1) rfl (arr fc) 22 (0, 0) fc B12.out.c (arr_get _) ?_)
  refine (mk fc cn _).mono ?_
  rintro e W13 ⟨y, rfl, hge, hL, hb⟩
  have B13 := (show Hid (Base w W13 fa fb fc) from B12.out.below hb)
  have g_y : w.heap.size + 1 + 1 + 1 < y := by have := B12.out.lt; omega
  have ne_x_y : x ≠ y := by have := L_x_12.out.lt; omega
  have L_x_13 := (show Hid (Lat W13 x (fun i => wrap64 (wrap64 (fa i + fb i) + fc i)) (wrap64 (wrap64 (an + bn) + cn))) from L_x_12.out.below hb)
  have L_y_13 := (show Hid (Lat W13 y fc cn) from hL)
  clear B12 hge hL hb L_x_12
  go_wp2_with (refine wpList_load22 rfl _ rfl w.heap.size rfl (arr fa) 22 (0, 0) fa B13.out.a (arr_get _) ?_)
  refine (mk fa an _).mono ?_
  rintro e W14 ⟨t1, rfl, hge, hL, hb⟩
  have B14 := (show Hid (Base w W14 fa fb fc) from B13.out.below hb)
  have g_t1 : w.heap.size + 1 + 1 + 1 < t1 := by have := B13.out.lt; omega
  have ne_x_t1 : x ≠ t1 := by have := L_x_13.out.lt; omega
  have L_x_14 := (show Hid (Lat W14 x (fun i => wrap64 (wrap64 (fa i + fb i) + fc i)) (wrap64 (wrap64 (an + bn) + cn))) from L_x_13.out.below hb)
  have ne_y_t1 : y ≠ t1 := by have := L_y_13.out.lt; omega
  have L_y_14 := (show Hid (Lat W14 y fc cn) from L_y_13.out.below hb)
  have L_t1_14 := (show Hid (Lat W14 t1 fa an) from hL)
  clear B13 hge hL hb L_x_13 L_y_13
  have M := hid (zzMerge y t1 fc fa cn an W14 L_y_14.out L_t1_14.out ne_y_t1.symm)
  go_wp2_with fail
  refine M.out.mono ?_
  rintro e W15 ⟨rfl, hP⟩
  have B15 := (show Hid (Base w W15 fa fb fc) from B14.out.puts hP g_y)
  have L_x_15 := (show Hid (Lat W15 x (fun i => wrap64 (wrap64 (fa i + fb i) + fc i)) (wrap64 (wrap64 (an + bn) + cn))) from hP.other L_x_14.out ne_x_y)
  have L_t1_15 := (show Hid (Lat W15 t1 fa an) from hP.other L_t1_14.out ne_y_t1.symm)
  have L_y_15 := (show Hid (Lat W15 y (fun i => wrap64 (fc i + fa i)) (wrap64 (cn + an))) from hP.holds)
  clear B14 M hP L_x_14 L_y_14 L_t1_14
  clear L_t1_15
  go_wp2_with (refine wpList_load22 rfl _ rfl (w.heap.size + 1) rfl (arr fb) 22 (0, 0) fb B15.out.b (arr_get _) ?_)
  refine (mk fb bn _).mono ?_
  rintro e W16 ⟨t2, rfl, hge, hL, hb⟩
  have B16 := (show Hid (Base w W16 fa fb fc) from B15.out.below hb)
  have g_t2 : w.heap.size + 1 + 1 + 1 < t2 := by have := B15.out.lt; omega
  have ne_x_t2 : x ≠ t2 := by have := L_x_15.out.lt; omega
  have L_x_16 := (show Hid (Lat W16 x (fun i => wrap64 (wrap64 (fa i + fb i) + fc i)) (wrap64 (wrap64 (an + bn) + cn))) from L_x_15.out.below hb)
  have ne_y_t2 : y ≠ t2 := by have := L_y_15.out.lt; omega
  have L_y_16 := (show Hid (Lat W16 y (fun i => wrap64 (fc i + fa i)) (wrap64 (cn + an))) from L_y_15.out.below hb)
  have L_t2_16 := (show Hid (Lat W16 t2 fb bn) from hL)
  clear B15 hge hL hb L_x_15 L_y_15
  have M := hid (zzMerge y t2 (fun i => wrap64 (fc i + fa i)) fb (wrap64 (cn + an)) bn W16 L_y_16.out L_t2_16.out ne_y_t2.symm)
  go_wp2_with fail
  refine M.out.mono ?_
  rintro e W17 ⟨rfl, hP⟩
  have B17 := (show Hid (Base w W17 fa fb fc) from B16.out.puts hP g_y)
  have L_x_17 := (show Hid (Lat W17 x (fun i => wrap64 (wrap64 (fa i + fb i) + fc i)) (wrap64 (wrap64 (an + bn) + cn))) from hP.other L_x_16.out ne_x_y)
  have L_t2_17 := (show Hid (Lat W17 t2 fb bn) from hP.other L_t2_16.out ne_y_t2.symm)
  have L_y_17 := (show Hid (Lat W17 y (fun i => wrap64 (wrap64 (fa i + fb i) + fc i)) (wrap64 (wrap64 (an + bn) + cn))) from (by have h := hP.holds; rw [mix_y] at h; exact lat_same h (fun i _ => mix_y _ _ _)))
  clear B16 M hP L_x_16 L_y_16 L_t2_16
  clear L_t2_17
  go_wp2_with (refine wpList_load22 rfl _ rfl (w.heap.size + 1) rfl (arr fb) 22 (0, 0) fb B17.out.b (arr_get _) ?_)
  refine (mk fb bn _).mono ?_
  rintro e W18 ⟨bc, rfl, hge, hL, hb⟩
  have B18 := (show Hid (Base w W18 fa fb fc) from B17.out.below hb)
  have g_bc : w.heap.size + 1 + 1 + 1 < bc := by have := B17.out.lt; omega
  have ne_x_bc : x ≠ bc := by have := L_x_17.out.lt; omega
  have L_x_18 := (show Hid (Lat W18 x (fun i => wrap64 (wrap64 (fa i + fb i) + fc i)) (wrap64 (wrap64 (an + bn) + cn))) from L_x_17.out.below hb)
  have ne_y_bc : y ≠ bc := by have := L_y_17.out.lt; omega
  have L_y_18 := (show Hid (Lat W18 y (fun i => wrap64 (wrap64 (fa i + fb i) + fc i)) (wrap64 (wrap64 (an + bn) + cn))) from L_y_17.out.below hb)
  have L_bc_18 := (show Hid (Lat W18 bc fb bn) from hL)
  clear B17 hge hL hb L_x_17 L_y_17
  go_wp2_with (refine wpList_load22 rfl _ rfl (w.heap.size + 1 + 1) rfl (arr fc) 22 (0, 0) fc B18.out.c (arr_get _) ?_)
  refine (mk fc cn _).mono ?_
  rintro e W19 ⟨t3, rfl, hge, hL, hb⟩
  have B19 := (show Hid (Base w W19 fa fb fc) from B18.out.below hb)
  have g_t3 : w.heap.size + 1 + 1 + 1 < t3 := by have := B18.out.lt; omega
  have ne_x_t3 : x ≠ t3 := by have := L_x_18.out.lt; omega
  have L_x_19 := (show Hid (Lat W19 x (fun i => wrap64 (wrap64 (fa i + fb i) + fc i)) (wrap64 (wrap64 (an + bn) + cn))) from L_x_18.out.below hb)
  have ne_y_t3 : y ≠ t3 := by have := L_y_18.out.lt; omega
  have L_y_19 := (show Hid (Lat W19 y (fun i => wrap64 (wrap64 (fa i + fb i) + fc i)) (wrap64 (wrap64 (an + bn) + cn))) from L_y_18.out.below hb)
  have ne_bc_t3 : bc ≠ t3 := by have := L_bc_18.out.lt; omega
  have L_bc_19 := (show Hid (Lat W19 bc fb bn) from L_bc_18.out.below hb)
  have L_t3_19 := (show Hid (Lat W19 t3 fc cn) from hL)
  clear B18 hge hL hb L_x_18 L_y_18 L_bc_18
  have M := hid (zzMerge bc t3 fb fc bn cn W19 L_bc_19.out L_t3_19.out ne_bc_t3.symm)
  go_wp2_with fail
  refine M.out.mono ?_
  rintro e W20 ⟨rfl, hP⟩
  have B20 := (show Hid (Base w W20 fa fb fc) from B19.out.puts hP g_bc)
  have L_x_20 := (show Hid (Lat W20 x (fun i => wrap64 (wrap64 (fa i + fb i) + fc i)) (wrap64 (wrap64 (an + bn) + cn))) from hP.other L_x_19.out ne_x_bc)
  have L_y_20 := (show Hid (Lat W20 y (fun i => wrap64 (wrap64 (fa i + fb i) + fc i)) (wrap64 (wrap64 (an + bn) + cn))) from hP.other L_y_19.out ne_y_bc)
  have L_t3_20 := (show Hid (Lat W20 t3 fc cn) from hP.other L_t3_19.out ne_bc_t3.symm)
  have L_bc_20 := (show Hid (Lat W20 bc (fun i => wrap64 (fb i + fc i)) (wrap64 (bn + cn))) from hP.holds)
  clear B19 M hP L_x_19 L_y_19 L_bc_19 L_t3_19
  clear L_t3_20
  go_wp2_with (refine wpList_load22 rfl _ rfl w.heap.size rfl (arr fa) 22 (0, 0) fa B20.out.a (arr_get _) ?_)
  refine (mk fa an _).mono ?_
  rintro e W21 ⟨ww, rfl, hge, hL, hb⟩
  have B21 := (show Hid (Base w W21 fa fb fc) from B20.out.below hb)
  have g_ww : w.heap.size + 1 + 1 + 1 < ww := by have := B20.out.lt; omega
  have ne_x_ww : x ≠ ww := by have := L_x_20.out.lt; omega
  have L_x_21 := (show Hid (Lat W21 x (fun i => wrap64 (wrap64 (fa i + fb i) + fc i)) (wrap64 (wrap64 (an + bn) + cn))) from L_x_20.out.below hb)
  have ne_y_ww : y ≠ ww := by have := L_y_20.out.lt; omega
  have L_y_21 := (show Hid (Lat W21 y (fun i => wrap64 (wrap64 (fa i + fb i) + fc i)) (wrap64 (wrap64 (an + bn) + cn))) from L_y_20.out.below hb)
  have ne_bc_ww : bc ≠ ww := by have := L_bc_20.out.lt; omega
  have L_bc_21 := (show Hid (Lat W21 bc (fun i => wrap64 (fb i + fc i)) (wrap64 (bn + cn))) from L_bc_20.out.below hb)
  have L_ww_21 := (show Hid (Lat W21 ww fa an) from hL)
  clear B20 hge hL hb L_x_20 L_y_20 L_bc_20
  have M := hid (zzMerge ww bc fa (fun i => wrap64 (fb i + fc i)) an (wrap64 (bn + cn)) W21 L_ww_21.out L_bc_21.out ne_bc_ww)
  go_wp2_with fail
  refine M.out.mono ?_
  rintro e W22 ⟨rfl, hP⟩
  have B22 := (show Hid (Base w W22 fa fb fc) from B21.out.puts hP g_ww)
  have L_x_22 := (show Hid (Lat W22 x (fun i => wrap64 (wrap64 (fa i + fb i) + fc i)) (wrap64 (wrap64 (an + bn) + cn))) from hP.other L_x_21.out ne_x_ww)
  have L_y_22 := (show Hid (Lat W22 y (fun i => wrap64 (wrap64 (fa i + fb i) + fc i)) (wrap64 (wrap64 (an + bn) + cn))) from hP.other L_y_21.out ne_y_ww)
  have L_bc_22 := (show Hid (Lat W22 bc (fun i => wrap64 (fb i + fc i)) (wrap64 (bn + cn))) from hP.other L_bc_21.out ne_bc_ww)
  have L_ww_22 := (show Hid (Lat W22 ww (fun i => wrap64 (wrap64 (fa i + fb i) + fc i)) (wrap64 (wrap64 (an + bn) + cn))) from (by have h := hP.holds; rw [mix_w] at h; exact lat_same h (fun i _ => mix_w _ _ _)))
  clear B21 M hP L_x_21 L_y_21 L_bc_21 L_ww_21
  clear L_bc_22
  go_wp2_with fail
  refine (counts x (fun i => wrap64 (wrap64 (fa i + fb i) + fc i)) _ _ L_x_22.out).mono ?_
  rintro e W23 ⟨rfl, hb⟩
  have B23 := (show Hid (Base w W23 fa fb fc) from B22.out.below hb)
  have L_x_23 := hid (L_x_22.out.below hb)
  have L_y_23 := hid (L_y_22.out.below hb)
  have L_ww_23 := hid (L_ww_22.out.below hb)
  clear hb B22 L_x_22 L_y_22 L_ww_22
  have HN := (show Hid ((W23.alloc (.cells (arr fun _ => 0) 22)).heap[W23.heap.size]? = some (.cells (arr fun _ => 0) 22 (0, 0))) from heap_alloc_new W23 _)
  go_wp2_with (refine wpList_store_row rfl 22 _ _ rfl W23.heap.size (arr fun i => wrap64 (wrap64 (fa i + fb i) + fc i)) rfl rfl 22 (arr fun _ => 0) HN.out (by rw [arr_size]; exact info22) (by rw [arr_size, arr_size]) (arr_one _) ?_)
  have HG : Hid (((W23.alloc (.cells (arr fun _ => 0) 22)).setRow W23.heap.size (arr fun i => wrap64 (wrap64 (fa i + fb i) + fc i))).heap[W23.heap.size]? = some (.cells (arr fun i => wrap64 (wrap64 (fa i + fb i) + fc i)) 22 (0, 0))) := setRow_heap _ _ _ _ _ _ HN.out
  have hb : Below W23.heap.size W23 ((W23.alloc (.cells (arr fun _ => 0) 22)).setRow W23.heap.size (arr fun i => wrap64 (wrap64 (fa i + fb i) + fc i))) :=
    ((Below.refl _ W23).alloc (Nat.le_refl _) _).trans ⟨rfl, rfl, rfl, by simp, fun k hk => setRow_other _ _ _ _ (by omega)⟩
  generalize (W23.alloc (.cells (arr fun _ => 0) 22)).setRow W23.heap.size (arr fun i => wrap64 (wrap64 (fa i + fb i) + fc i)) = W24 at *
  have B24 := (show Hid (Base w W24 fa fb fc) from B23.out.below hb)
  have L_x_24 := hid (L_x_23.out.below hb)
  have L_y_24 := hid (L_y_23.out.below hb)
  have L_ww_24 := hid (L_ww_23.out.below hb)
  clear hb B23 L_x_23 L_y_23 L_ww_23 HN
  generalize W23.heap.size = G at *
  refine region_quiet (by kernel_rfl) ?_
  go_simp
  refine quiet_move rfl _ rfl (.pointer (some ⟨y, 0, none⟩)) rfl ?_
  go_simp
  refine quiet_call rfl 6 _ _ rfl (.pointer (some ⟨y, 0, none⟩)) (.agg (arr (fun i => wrap64 (wrap64 (fa i + fb i) + fc i)))) rfl (enters6 _) (cls6 L_y_24.out) ?_
  go_simp
  refine quiet_load rfl _ rfl G rfl (fun i => wrap64 (wrap64 (fa i + fb i) + fc i)) (clsLoad HG.out) ?_
  go_simp
  refine quiet_neqA rfl _ _ _ rfl (fun i => wrap64 (wrap64 (fa i + fb i) + fc i)) rfl rfl ?_
  go_simp
  refine quiet_move rfl _ rfl (.bool false) rfl ?_
  go_simp
  refine quiet_move rfl _ rfl (.pointer (some ⟨ww, 0, none⟩)) rfl ?_
  go_simp
  refine quiet_call rfl 6 _ _ rfl (.pointer (some ⟨ww, 0, none⟩)) (.agg (arr (fun i => wrap64 (wrap64 (fa i + fb i) + fc i)))) rfl (enters6 _) (cls6 L_ww_24.out) ?_
  go_simp
  refine quiet_load rfl _ rfl G rfl (fun i => wrap64 (wrap64 (fa i + fb i) + fc i)) (clsLoad HG.out) ?_
  go_simp
  refine quiet_neqA rfl _ _ _ rfl (fun i => wrap64 (wrap64 (fa i + fb i) + fc i)) rfl rfl ?_
  go_simp
  refine quiet_pick rfl _ _ _ rfl rfl (.bool false) rfl ?_
  go_simp
  refine wpQuiet_nil ?_
  intro W25 hb
  have B25 := (show Hid (Base w W25 fa fb fc) from B24.out.below hb)
  have L_x_25 := hid (L_x_24.out.below hb)
  have L_y_25 := hid (L_y_24.out.below hb)
  have L_ww_25 := hid (L_ww_24.out.below hb)
  have HG2 : Hid (W25.heap[G]? = some (.cells (arr (fun i => wrap64 (wrap64 (fa i + fb i) + fc i))) 22 (0, 0))) := (hb.block G (Array.getElem?_eq_some_iff.1 HG.out).1).trans HG.out
  clear hb B24 L_x_24 L_y_24 L_ww_24 HG
  go_wp2_with fail
  refine (theN x _ _ _ L_x_25.out).mono ?_
  rintro e W26 ⟨rfl, hw⟩
  obtain rfl := hw.symm
  clear hw
  go_wp2_with fail
  refine (theN y _ _ _ L_y_25.out).mono ?_
  rintro e W26 ⟨rfl, hw⟩
  obtain rfl := hw.symm
  clear hw
  go_wp2_with fail
  refine (theN ww _ _ _ L_ww_25.out).mono ?_
  rintro e W26 ⟨rfl, hw⟩
  obtain rfl := hw.symm
  clear hw
  go_wp2_with fail
  have cG : Hid (∀ i, i < 3776 → W25.cell? ⟨G, i, none⟩ = some (.int .i64 (wrap64 (wrap64 (fa i + fb i) + fc i)))) := fun i hi => by rw [cell_of_row W25 _ i _ 22 (0, 0) HG2.out]; exact arr_get _ i hi
  have cA : Hid (∀ i, i < 3776 → W25.cell? ⟨w.heap.size, i, none⟩ = some (.int .i64 (fa i))) := fun i hi => by rw [cell_of_row W25 _ i _ 22 (0, 0) B25.out.a]; exact arr_get _ i hi
  have cB : Hid (∀ i, i < 3776 → W25.cell? ⟨w.heap.size + 1, i, none⟩ = some (.int .i64 (fb i))) := fun i hi => by rw [cell_of_row W25 _ i _ 22 (0, 0) B25.out.b]; exact arr_get _ i hi
  have cC : Hid (∀ i, i < 3776 → W25.cell? ⟨w.heap.size + 1 + 1, i, none⟩ = some (.int .i64 (fc i))) := fun i hi => by rw [cell_of_row W25 _ i _ 22 (0, 0) B25.out.c]; exact arr_get _ i hi
  have HO := hid B25.out.old
  have HE : Hid ((sumTo (fun i => wrap64 (wrap64 (fa i + fb i) + fc i)) 3776 == wrap64 (wrap64 (sumTo fa 3776 + sumTo fb 3776) + sumTo fc 3776)) = true) := by rw [sum_mix]; exact beq_self_eq_true _
  clear B25 HG2 L_x_25 L_y_25 L_ww_25 ra rn
  go_loop [24, 28] (fun s i => ∃ k : Nat, k ≤ 3776 ∧ i = .int .i64 k ∧ s = .int .i64 (sumTo (fun i => wrap64 (wrap64 (fa i + fb i) + fc i)) k)) (fun _ i => 3776 - (intOf i).toNat)
  case atStart => exact ⟨0, Nat.zero_le _, rfl, rfl⟩
  case round =>
    obtain ⟨k0, hk0, rfl, rfl⟩ := hrel
    by_cases hlt : k0 < 3776
    · have hc := cG.out k0 hlt
      go_wp2
      go_round
      case rel => exact ⟨k0 + 1, by omega, by go_num, rfl⟩
      case measure => simp [intOf]; omega
    · obtain rfl : k0 = 3776 := by omega
      clear hlt hk0
      go_wp2
      go_loop [25, 29] (fun s i => ∃ k : Nat, k ≤ 3776 ∧ i = .int .i64 k ∧ s = .int .i64 (sumTo fa k)) (fun _ i => 3776 - (intOf i).toNat)
      case atStart => exact ⟨0, Nat.zero_le _, rfl, rfl⟩
      case round =>
        obtain ⟨k1, hk1, rfl, rfl⟩ := hrel
        by_cases hlt : k1 < 3776
        · have hc := cA.out k1 hlt
          go_wp2
          go_round
          case rel => exact ⟨k1 + 1, by omega, by go_num, rfl⟩
          case measure => simp [intOf]; omega
        · obtain rfl : k1 = 3776 := by omega
          clear hlt hk1
          go_wp2
          go_loop [26, 30] (fun s i => ∃ k : Nat, k ≤ 3776 ∧ i = .int .i64 k ∧ s = .int .i64 (sumTo fb k)) (fun _ i => 3776 - (intOf i).toNat)
          case atStart => exact ⟨0, Nat.zero_le _, rfl, rfl⟩
          case round =>
            obtain ⟨k2, hk2, rfl, rfl⟩ := hrel
            by_cases hlt : k2 < 3776
            · have hc := cB.out k2 hlt
              go_wp2
              go_round
              case rel => exact ⟨k2 + 1, by omega, by go_num, rfl⟩
              case measure => simp [intOf]; omega
            · obtain rfl : k2 = 3776 := by omega
              clear hlt hk2
              go_wp2
              go_loop [27, 31] (fun s i => ∃ k : Nat, k ≤ 3776 ∧ i = .int .i64 k ∧ s = .int .i64 (sumTo fc k)) (fun _ i => 3776 - (intOf i).toNat)
              case atStart => exact ⟨0, Nat.zero_le _, rfl, rfl⟩
              case round =>
                obtain ⟨k3, hk3, rfl, rfl⟩ := hrel
                by_cases hlt : k3 < 3776
                · have hc := cC.out k3 hlt
                  go_wp2
                  go_round
                  case rel => exact ⟨k3 + 1, by omega, by go_num, rfl⟩
                  case measure => simp [intOf]; omega
                · obtain rfl : k3 = 3776 := by omega
                  clear hlt hk3
                  have he := HE.out
                  go_wp2
                  go_ret
                  exact ⟨rfl, HO.out⟩
end Go.Proofs.Qxb6617702a
