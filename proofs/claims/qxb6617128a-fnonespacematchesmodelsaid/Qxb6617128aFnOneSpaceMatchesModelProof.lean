import Derived.Test.Qxb6617128aRows
import Derived.Test.Qxb6617128aModel
import Derived.WalkKit
import Derived.ProofKit
import Derived.OpenShut
import Derived.ShutString
import Derived.ChangeOld
import Derived.Below
namespace Go.Proofs.Qxb6617128a
open Go.ChangeShapes Go.WideShapes Go.ChangeAt Go.RowKit
open Go.ChangeMaps (open_string shut_string)

theorem own : ownKnob Try.prog.godebug = none := by kernel_rfl

theorem zzOneSpace (s : ByteArray) (w : World) (hs : s.size ≤ 35184372088832) :
    Calls Try.prog 7 #[.string s] w fun e w' => e = .returned (.string ⟨(osp false s.data.toList).toArray⟩) ∧ Below w.heap.size w w' := by
  go_enter Try.func7, Try.ntmps7
  go_wp2_with (go_at_call 19; refine (oneSpace _ _ hs).mono ?_; rintro e w1 ⟨rfl, hb⟩)
  go_ret
  exact ⟨rfl, hb⟩

theorem model_osp (s : ByteArray) (w : World) (hs : s.size ≤ 35184372088832) :
    Calls Try.prog 8 #[.string s] w fun e w' => e = .returned (.string ⟨(osp false s.data.toList).toArray⟩) ∧ Below w.heap.size w w' := by
  refine (model s w hs).mono ?_
  rintro e w1 ⟨rfl, hb⟩
  rw [(lastSp_osp _).1]
  exact ⟨rfl, hb⟩

namespace fnOneSpaceMatchesModel
set_option maxHeartbeats 1000000 in
set_option maxRecDepth 100000 in
theorem walk (a0 : ByteArray) (w0 : a0.size ≤ maxLen) (w : World) :
    Calls Try.prog 3 #[.string a0] w fun e w' => e = .returned (.bool true) ∧ Below w.heap.size w w' := by
  unfold maxLen at w0
  by_cases hbig : a0.size ≤ 1048576
  · have h7 := zzOneSpace a0
    have h8 := model_osp a0
    have hlen := osp_length a0.data.toList false
    have hl0 : a0.data.toList.length = a0.size := by simp
    generalize osp false a0.data.toList = r at *
    have hr : r.length ≤ a0.size := by omega
    clear hlen hl0
    have H7 : Hid _ := h7
    have H8 : Hid _ := h8
    clear h7 h8
    go_enter Try.func3, Try.ntmps3
    go_wp2_with (first | (go_at_call 7; refine ((H7.out) _ (by omega)).mono ?_; rintro e w1 ⟨rfl, hb1⟩) | (go_at_call 8; refine ((H8.out) _ (by omega)).mono ?_; rintro e w2 ⟨rfl, hb2⟩) | go_in)
    go_ret
    exact ⟨rfl, hb1.trans (hb2.mono hb1.size)⟩
  · go_enter Try.func3, Try.ntmps3
    go_wp2
    go_ret
    exact ⟨rfl, Below.refl _ _⟩

set_option maxRecDepth 100000 in
theorem lifted (os : Os) (started : os.Started) (H : Type) (enc : TypeId × Value → H) :
    ReturnsInHanded {} Try.checked os 3 .any (Rows.fnOneSpaceMatchesModelSpec.pre6 enc Try.prog Try.f3 Rows.fnOneSpaceMatchesModelRow.domain false) (Rows.fnOneSpaceMatchesModelSpec.post enc Try.prog Try.f3 false true false false) := by
  refine returnsInHanded_of_change (C := Try.checked) own started (by kernel_rfl) Try.func3
    (ChangeSpec.witness6 (enc := enc) (C := Try.checked) false ⟨#[], #[.string ByteArray.empty], []⟩ 8 (by kernel_rfl) (by kernel_rfl) (by kernel_rfl) (by kernel_rfl)) ?_
  intro W base args ds gs before hval0 hW hcnd _
  have hval : ∀ (j : Nat) t v, Try.f3.params[j]? = some t → args[j]? = some v → Value.okWide Try.prog W .any base t v := hval0
  have hW' := hW
  obtain ⟨p, q, hA0, hV, rfl, hfz, hnd⟩ := hW
  have hA : DataW.TrodAll enc Try.prog W 0 (fun _ => true) true Try.f3.params.toList args.toList ds p := hA0
  rw [Try.params3] at hA hval
  obtain ⟨v0, vs0, d0, ds0, p0, q0, hargs, rfl, rfl, h0, r0⟩ := trodAll_cons hA
  obtain ⟨rfl, rfl, rfl⟩ := trodAll_nil r0
  obtain rfl : args = #[v0] := by cases args; simp_all
  obtain ⟨rfl, rfl⟩ := trodVars_none hV
  obtain ⟨a0, rfl, rfl, rfl, w0⟩ := open_string Try.underlying9 (hval 0 9 v0 rfl rfl) h0
  clear hA0 hval0
  refine (walk a0 w0 W).mono fun e W' ⟨he, bel⟩ => ?_
  subst he
  exact ⟨_, rfl, _, _, _, [], _, [], hW', trodAll_mk1 (shut_bool Try.underlying4 _), (trodAll_cons_mk (shut_string Try.underlying9 w0) trodAll_mk0), rfl, bel.frame _, fun h => by cases h⟩

theorem over : Rows.fnOneSpaceMatchesModelRow.holds Try.pinned (OpenSpec.ofChange Rows.fnOneSpaceMatchesModelSpec) :=
  OpenClaim.holds_of_wide 3 Try.f3 rfl rfl rfl rfl rfl rfl rfl ⟨rfl, rfl, rfl, rfl, rfl⟩ rfl rfl rfl rfl rfl (by kernel_rfl) Try.func3 (by kernel_rfl)
    (of_decide_eq_true (by kernel_rfl)) (by unfold Func.isWrapper; first | (rw [if_pos (by decide +kernel)]; kernel_rfl) | (rw [if_neg (by decide +kernel)]; exact ⟨rfl, rfl⟩))
    (fun os started H enc _ => lifted os started H enc)

end fnOneSpaceMatchesModel

theorem fnOneSpaceMatchesModel_proved : Rows.FnOneSpaceMatchesModelSaid := fnOneSpaceMatchesModel.over
end Go.Proofs.Qxb6617128a
