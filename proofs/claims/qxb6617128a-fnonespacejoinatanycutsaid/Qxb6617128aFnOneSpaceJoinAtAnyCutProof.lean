import Derived.Test.Qxb6617128aRows
import Derived.Test.Qxb6617128aJoinLaw
import Derived.WalkKit
import Derived.ProofKit
import Derived.OpenShut
import Derived.ShutString
import Derived.ChangeOld
import Derived.Below
namespace Go.Proofs.Qxb6617128a
open Go.ChangeShapes Go.WideShapes Go.ChangeAt Go.RowKit
open Go.ChangeMaps (open_string shut_string)

namespace fnOneSpaceJoinAtAnyCut
theorem own : ownKnob Try.prog.godebug = none := by kernel_rfl

theorem bytes_append (x y : List UInt8) : (⟨x.toArray⟩ : ByteArray) ++ ⟨y.toArray⟩ = ⟨(x ++ y).toArray⟩ := by
  apply ByteArray.ext; simp
theorem bytes_tail (y : List UInt8) : (⟨y.toArray⟩ : ByteArray).extract 1 (⟨y.toArray⟩ : ByteArray).size = ⟨(y.drop 1).toArray⟩ := by
  apply ByteArray.ext
  simp [ByteArray.data_extract, ByteArray.size]
  exact List.take_of_length_le (by simp)
theorem bytes_last (x : List UInt8) (h : x.length - 1 < x.length) : (⟨x.toArray⟩ : ByteArray)[(⟨x.toArray⟩ : ByteArray).size - 1]'h = x.getLastD 0 := by
  show x[x.length - 1] = _
  rw [List.getLastD_eq_getLast?, List.getLast?_eq_getElem?, List.getElem?_eq_getElem h]; rfl

theorem join_cases (l m : List UInt8) (ra rb rab : ByteArray) (hra : ra = ⟨(osp false l).toArray⟩) (hrb : rb = ⟨(osp false m).toArray⟩) (hrab : rab = ⟨(osp false (l ++ m)).toArray⟩) :
    (ra.size ≤ 0 ∧ ra ++ rb = rab) ∨ (∃ h : ra.size - 1 < ra.size, ((ra[ra.size - 1].toNat : Int) == 32) = false ∧ ra ++ rb = rab) ∨
      (∃ h : ra.size - 1 < ra.size, ((ra[ra.size - 1].toNat : Int) == 32) = true ∧ rb.size ≤ 0 ∧ ra ++ rb = rab) ∨
      (∃ h : ra.size - 1 < ra.size, ((ra[ra.size - 1].toNat : Int) == 32) = true ∧ ∃ h2 : 0 < rb.size, ((rb[0].toNat : Int) == 32) = false ∧ ra ++ rb = rab) ∨
      (∃ h : ra.size - 1 < ra.size, ((ra[ra.size - 1].toNat : Int) == 32) = true ∧ ∃ h2 : 0 < rb.size, ((rb[0].toNat : Int) == 32) = true ∧ ra ++ rb.extract 1 rb.size = rab) := by
  have hap := osp_append l m false
  have hla := osp_last l 0 false (by decide)
  have htr := osp_true m
  rw [hap] at hrab
  generalize hx : osp false l = x at *
  clear hx
  by_cases h0 : x.length = 0
  · left
    have hx0 : x = [] := List.length_eq_zero_iff.1 h0
    subst hx0
    have e : stBl false l = false := by rw [← hla]; decide
    rw [e] at hrab
    subst hra hrb hrab
    exact ⟨Nat.le_refl _, bytes_append _ _⟩
  right
  have hlt : x.length - 1 < x.length := by omega
  have hla' : ((x.getLastD 0).toNat : Int) == 32 ↔ stBl false l = true := by
    rw [← hla, byte_eq32']
  cases hs : stBl false l with
  | false =>
    left
    rw [hs] at hrab hla'
    subst hra hrb hrab
    refine ⟨hlt, ?_, bytes_append _ _⟩
    rw [bytes_last x hlt]
    simpa using hla'
  | true =>
    right
    rw [hs] at hrab hla'
    have hl32 : ((x.getLastD 0).toNat : Int) == 32 := hla'.2 rfl
    rw [htr] at hrab
    generalize osp false m = y at *
    by_cases hy : y.length = 0
    · left
      have hy0 : y = [] := List.length_eq_zero_iff.1 hy
      subst hy0
      subst hra hrb hrab
      refine ⟨hlt, ?_, Nat.le_refl _, bytes_append _ _⟩
      rw [bytes_last x hlt]; exact hl32
    right
    obtain ⟨c, y, rfl⟩ : ∃ c z, y = c :: z := by
      cases y with
      | nil => simp at hy
      | cons c z => exact ⟨c, z, rfl⟩
    have hy2 : 0 < (c :: y).length := by simp
    by_cases hc : (c == 32) = true
    · right
      have hh : (c :: y).head? = some 32 := by have : c = 32 := by simpa using hc
                                               simp [this]
      rw [if_pos hh] at hrab
      subst hra hrb hrab
      refine ⟨hlt, ?_, hy2, ?_, ?_⟩
      · rw [bytes_last x hlt]; exact hl32
      · show ((c.toNat : Int) == 32) = true
        rw [byte_eq32']; exact hc
      · rw [bytes_tail, bytes_append]
    · left
      have hh : ¬ (c :: y).head? = some 32 := by simpa using hc
      rw [if_neg hh] at hrab
      subst hra hrb hrab
      refine ⟨hlt, ?_, hy2, ?_, bytes_append _ _⟩
      · rw [bytes_last x hlt]; exact hl32
      · show ((c.toNat : Int) == 32) = false
        rw [byte_eq32']; simpa using hc

theorem gives7 (s : ByteArray) (hs : s.size ≤ 35184372088832) : Gives 7 #[.string s] ⟨(osp false s.data.toList).toArray⟩ := fun w => zzOneSp s w hs

theorem join_main (a b : ByteArray) (w : World) (ha : a.size ≤ 524288) (hb : b.size ≤ 524288) :
    Calls Try.prog 4 #[.string a, .string b] w fun e w' => e = .returned (.bool true) ∧ Below w.heap.size w w' := by
  have hal : a.data.toList.length = a.size := by simp
  have hbl : b.data.toList.length = b.size := by simp
  have l1 := osp_length a.data.toList false
  have l2 := osp_length b.data.toList false
  have l3 := osp_length (a.data.toList ++ b.data.toList) false
  have hp := osp_pairs a.data.toList false
  have e1 : (⟨(osp false a.data.toList).toArray⟩ : ByteArray).size = (osp false a.data.toList).length := rfl
  have e2 : (⟨(osp false b.data.toList).toArray⟩ : ByteArray).size = (osp false b.data.toList).length := rfl
  have e3 : (⟨(osp false (a.data.toList ++ b.data.toList)).toArray⟩ : ByteArray).size = (osp false (a.data.toList ++ b.data.toList)).length := rfl
  rw [List.length_append] at l3
  refine joinCore a b ⟨(osp false a.data.toList).toArray⟩ ⟨(osp false b.data.toList).toArray⟩ ⟨(osp false (a.data.toList ++ b.data.toList)).toArray⟩ ⟨(nb true a.data.toList).toArray⟩ w ha hb (by omega) (by omega)
    (gives7 a (by omega)) (gives7 b (by omega)) ?_ ?_ ?_ ?_ ?_ ?_ (join_cases a.data.toList b.data.toList _ _ _ rfl rfl rfl)
  · have := gives7 (a ++ b) (by rw [ByteArray.size_append]; omega)
    rw [ByteArray.toList_data_append] at this
    exact this
  · have := gives7 ⟨(osp false (a.data.toList ++ b.data.toList)).toArray⟩ (by omega)
    simp only [osp_twice] at this
    exact this
  · have h : ∀ w : World, Calls Try.prog 11 #[.string ⟨(osp false a.data.toList).toArray⟩] w fun e w' => e = .returned (.bool false) ∧ w' = w := by
      intro w
      have := hasTab ⟨(osp false a.data.toList).toArray⟩ w (by omega)
      simp only [tabIn_osp] at this
      exact this
    exact h
  · intro w
    have := nonBlank ⟨(osp false a.data.toList).toArray⟩ false w (by omega)
    simp only [nb_osp] at this
    exact this
  · exact fun w => nonBlank a true w (by omega)
  · have h : (⟨(osp false a.data.toList).toArray⟩ : ByteArray).size + pairs false a.data.toList = a.size := by omega
    exact h

theorem walk (a0 : ByteArray) (a1 : ByteArray) (w0 : a0.size ≤ maxLen) (w1 : a1.size ≤ maxLen) (w : World) :
    Calls Try.prog 4 #[.string a0, .string a1] w fun e w' => e = .returned (.bool true) ∧ Below w.heap.size w w' := by
  unfold maxLen at w0 w1
  by_cases h1 : a0.size ≤ 524288
  · by_cases h2 : a1.size ≤ 524288
    · exact join_main a0 a1 w h1 h2
    · exact joinBig a0 a1 w w0 w1 (Or.inr ⟨h1, by omega⟩)
  · exact joinBig a0 a1 w w0 w1 (Or.inl (by omega))

set_option maxRecDepth 100000 in
theorem lifted (os : Os) (started : os.Started) (H : Type) (enc : TypeId × Value → H) :
    ReturnsInHanded {} Try.checked os 4 .any (Rows.fnOneSpaceJoinAtAnyCutSpec.pre6 enc Try.prog Try.f4 Rows.fnOneSpaceJoinAtAnyCutRow.domain false) (Rows.fnOneSpaceJoinAtAnyCutSpec.post enc Try.prog Try.f4 false true false false) := by
  refine returnsInHanded_of_change (C := Try.checked) own started (by kernel_rfl) Try.func4
    (ChangeSpec.witness6 (enc := enc) (C := Try.checked) false ⟨#[], #[.string ByteArray.empty, .string ByteArray.empty], []⟩ 8 (by kernel_rfl) (by kernel_rfl) (by kernel_rfl) (by kernel_rfl)) ?_
  intro W base args ds gs before hval0 hW hcnd _
  have hval : ∀ (j : Nat) t v, Try.f4.params[j]? = some t → args[j]? = some v → Value.okWide Try.prog W .any base t v := hval0
  have hW' := hW
  obtain ⟨p, q, hA0, hV, rfl, hfz, hnd⟩ := hW
  have hA : DataW.TrodAll enc Try.prog W 0 (fun _ => true) true Try.f4.params.toList args.toList ds p := hA0
  rw [Try.params4] at hA hval
  obtain ⟨v0, vs0, d0, ds0, p0, q0, hargs, rfl, rfl, h0, r0⟩ := trodAll_cons hA
  obtain ⟨v1, vs1, d1, ds1, p1, q1, rfl, rfl, rfl, h1, r1⟩ := trodAll_cons r0
  obtain ⟨rfl, rfl, rfl⟩ := trodAll_nil r1
  obtain rfl : args = #[v0, v1] := by cases args; simp_all
  obtain ⟨rfl, rfl⟩ := trodVars_none hV
  obtain ⟨a0, rfl, rfl, rfl, w0⟩ := open_string Try.underlying9 (hval 0 9 v0 rfl rfl) h0
  obtain ⟨a1, rfl, rfl, rfl, w1⟩ := open_string Try.underlying9 (hval 1 9 v1 rfl rfl) h1
  clear hA0 hval0
  refine (walk a0 a1 w0 w1 W).mono fun e W' ⟨he, bel⟩ => ?_
  subst he
  exact ⟨_, rfl, _, _, _, [], _, [], hW', trodAll_mk1 (shut_bool Try.underlying4 _), (trodAll_cons_mk (shut_string Try.underlying9 w0) (trodAll_cons_mk (shut_string Try.underlying9 w1) trodAll_mk0)), rfl, bel.frame _, fun h => by cases h⟩

theorem over : Rows.fnOneSpaceJoinAtAnyCutRow.holds Try.pinned (OpenSpec.ofChange Rows.fnOneSpaceJoinAtAnyCutSpec) :=
  OpenClaim.holds_of_wide 4 Try.f4 rfl rfl rfl rfl rfl rfl rfl ⟨rfl, rfl, rfl, rfl, rfl⟩ rfl rfl rfl rfl rfl (by kernel_rfl) Try.func4 (by kernel_rfl)
    (of_decide_eq_true (by kernel_rfl)) (by unfold Func.isWrapper; first | (rw [if_pos (by decide +kernel)]; kernel_rfl) | (rw [if_neg (by decide +kernel)]; exact ⟨rfl, rfl⟩))
    (fun os started H enc _ => lifted os started H enc)

end fnOneSpaceJoinAtAnyCut

theorem fnOneSpaceJoinAtAnyCut_proved : Rows.FnOneSpaceJoinAtAnyCutSaid := fnOneSpaceJoinAtAnyCut.over
end Go.Proofs.Qxb6617128a
