import Derived.Test.Qxb6617702aRows
import Derived.Test.Qxb6617702aLaw
import Derived.Test.Qxb6617702aWitness
import Derived.WalkKit
import Derived.ProofKit
import Derived.OpenShut
import Derived.ShutString
import Derived.ChangeOld
import Derived.Below
namespace Go.Proofs.Qxb6617702a
open Go.ChangeShapes Go.WideShapes Go.ChangeAt Go.RowKit

theorem own : ownKnob Try.prog.godebug = none := by kernel_rfl
theorem laidOut : laidOutB Try.prog = true := by kernel_rfl
theorem cells22 : Try.prog.cellsOf 22 = 3776 := by kernel_rfl

/-- the number in cell i -/
def numAt (cs : Array Value) (i : Nat) : Int := match cs[i]? with
  | some (.int _ x) => x
  | _ => 0

/-- an array that came in -/
theorem open_arr {H : Type} {enc : TypeId × Value → H} {W : World} {base : Nat} {sp : Nat → Bool} {held : Bool} {v : Value} {d : DataW H} {p : List MemPlace} {b2 : Nat} {r : Reach}
    (hv : Value.okWide Try.prog W r b2 22 v) (h : DataW.Trod enc Try.prog W base sp held 22 v d p) : ∃ f : Nat → Int, v = .agg (arr f) ∧ ∀ i, i < 3776 → (Lit.int .i64 (f i)).wf = true := by
  obtain ⟨cs, rfl, hsz, _⟩ : ∃ cs, v = .agg cs ∧ cs.size = Try.prog.cellsOf 22 ∧ Row.okWide Try.prog W r b2 22 cs := by
    simpa [Value.okWide, Try.underlying22] using hv
  rw [cells22] at hsz
  obtain ⟨fuel, hf⟩ := h
  obtain ⟨xs, m, _, _, hlen, hl, hel⟩ := DataW.trod_array Try.underlying22 hf
  have each : ∀ i, i < 3776 → ∃ x, cs[i]? = some (.int .i64 x) ∧ (Lit.int .i64 x).wf = true := by
    intro i hi
    have h1 := hel i hi
    rw [List.getElem?_eq_getElem (by omega)] at h1
    obtain ⟨x, e, _, wx⟩ := DataW.trod_int Try.underlying2 h1
    refine ⟨x, ?_, wx⟩
    rw [cells2, Nat.mul_one] at e
    have h2 := congrArg (fun l : List Value => l[0]?) e
    simpa [Value.cells, List.getElem?_take, List.getElem?_drop] using h2
  have eg : ∀ i, i < 3776 → ∀ x, cs[i]? = some (.int .i64 x) → numAt cs i = x := fun i _ x hx => by unfold numAt; rw [hx]
  refine ⟨numAt cs, ?_, ?_⟩
  · have e := arr_of cs (numAt cs) hsz (fun i hi => by
      obtain ⟨x, hx, _⟩ := each i hi
      rw [hx, eg i hi x hx])
    exact congrArg Value.agg e
  · intro i hi
    obtain ⟨x, hx, wx⟩ := each i hi
    rw [eg i hi x hx]; exact wx

theorem wrap_wf {n : Int} (h : (Lit.int .i64 n).wf = true) : wrap64 n = n := by
  have := bounds_i64 h
  exact IntWalk.wrap64_in n ⟨by omega, by omega⟩

set_option maxRecDepth 100000 in
theorem lifted (os : Os) (started : os.Started) (H : Type) (enc : TypeId × Value → H) :
    ReturnsInHanded {} Try.checked os 3 .any (Rows.fnMergeIsAnOrderFreeSumWithEmptyIdentitySpec.pre6 enc Try.prog Try.f3 Rows.fnMergeIsAnOrderFreeSumWithEmptyIdentityRow.domain false) (Rows.fnMergeIsAnOrderFreeSumWithEmptyIdentitySpec.post enc Try.prog Try.f3 false true false false) := by
  refine returnsInHanded_of_change (C := Try.checked) own started (by kernel_rfl) Try.func3
    (witness enc os) ?_
  intro W base args ds gs before hval0 hW hcnd _
  have hval : ∀ (j : Nat) t v, Try.f3.params[j]? = some t → args[j]? = some v → Value.okWide Try.prog W .any base t v := hval0
  have hW' := hW
  obtain ⟨p, q, hA0, hV, rfl, hfz, hnd⟩ := hW
  have hA : DataW.TrodAll enc Try.prog W 0 (fun _ => true) true Try.f3.params.toList args.toList ds p := hA0
  rw [Try.params3] at hA hval
  obtain ⟨v0, vs0, d0, ds0, p0, q0, hargs, rfl, rfl, h0, r0⟩ := trodAll_cons hA
  obtain ⟨v1, vs1, d1, ds1, p1, q1, rfl, rfl, rfl, h1, r1⟩ := trodAll_cons r0
  obtain ⟨v2, vs2, d2, ds2, p2, q2, rfl, rfl, rfl, h2, r2⟩ := trodAll_cons r1
  obtain ⟨v3, vs3, d3, ds3, p3, q3, rfl, rfl, rfl, h3, r3⟩ := trodAll_cons r2
  obtain ⟨v4, vs4, d4, ds4, p4, q4, rfl, rfl, rfl, h4, r4⟩ := trodAll_cons r3
  obtain ⟨v5, vs5, d5, ds5, p5, q5, rfl, rfl, rfl, h5, r5⟩ := trodAll_cons r4
  obtain ⟨rfl, rfl, rfl⟩ := trodAll_nil r5
  obtain rfl : args = #[v0, v1, v2, v3, v4, v5] := by cases args; simp_all
  obtain ⟨rfl, rfl⟩ := trodVars_none hV
  have k0 := h0
  have lt0 : ∀ x ∈ p0, x.block < W.heap.size := by obtain ⟨m, hm⟩ := k0; exact DataW.trod_lt m _ _ _ hm
  obtain ⟨f0, rfl, w0⟩ := open_arr (hval 0 22 v0 rfl rfl) h0
  obtain ⟨a1, rfl, rfl, rfl, w1⟩ := open_int Try.underlying2 (hval 1 2 v1 rfl rfl) h1
  have k2 := h2
  have lt2 : ∀ x ∈ p2, x.block < W.heap.size := by obtain ⟨m, hm⟩ := k2; exact DataW.trod_lt m _ _ _ hm
  obtain ⟨f2, rfl, _⟩ := open_arr (hval 2 22 v2 rfl rfl) h2
  obtain ⟨a3, rfl, rfl, rfl, w3⟩ := open_int Try.underlying2 (hval 3 2 v3 rfl rfl) h3
  have k4 := h4
  have lt4 : ∀ x ∈ p4, x.block < W.heap.size := by obtain ⟨m, hm⟩ := k4; exact DataW.trod_lt m _ _ _ hm
  obtain ⟨f4, rfl, _⟩ := open_arr (hval 4 22 v4 rfl rfl) h4
  obtain ⟨a5, rfl, rfl, rfl, w5⟩ := open_int Try.underlying2 (hval 5 2 v5 rfl rfl) h5
  clear hA0 hval0
  refine (law f0 f2 f4 a1 a3 a5 W (fun i hi => wrap_wf (w0 i hi)) (wrap_wf w1)).mono fun e W' ⟨he, bel⟩ => ?_
  subst he
  exact ⟨_, rfl, _, _, _, [], _, [], hW', trodAll_mk1 (shut_bool Try.underlying4 _),
    (trodAll_cons_mk (Below.trod laidOut (by kernel_rfl) (of_decide_eq_true (by kernel_rfl)) k0 bel lt0) (trodAll_cons_mk (shut_int Try.underlying2 w1)
      (trodAll_cons_mk (Below.trod laidOut (by kernel_rfl) (of_decide_eq_true (by kernel_rfl)) k2 bel lt2) (trodAll_cons_mk (shut_int Try.underlying2 w3)
        (trodAll_cons_mk (Below.trod laidOut (by kernel_rfl) (of_decide_eq_true (by kernel_rfl)) k4 bel lt4) (trodAll_cons_mk (shut_int Try.underlying2 w5) trodAll_mk0)))))), rfl, bel.frame _, fun h => by cases h⟩

theorem over : Rows.fnMergeIsAnOrderFreeSumWithEmptyIdentityRow.holds Try.pinned (OpenSpec.ofChange Rows.fnMergeIsAnOrderFreeSumWithEmptyIdentitySpec) :=
  OpenClaim.holds_of_wide 3 Try.f3 rfl rfl rfl rfl rfl rfl rfl ⟨rfl, rfl, rfl, rfl, rfl⟩ rfl rfl rfl rfl rfl (by kernel_rfl) Try.func3 (by kernel_rfl)
    (of_decide_eq_true (by kernel_rfl)) (by unfold Func.isWrapper; first | (rw [if_pos (by decide +kernel)]; kernel_rfl) | (rw [if_neg (by decide +kernel)]; exact ⟨rfl, rfl⟩))
    (fun os started H enc _ => lifted os started H enc)

theorem fnMergeIsAnOrderFreeSumWithEmptyIdentity_proved : Rows.FnMergeIsAnOrderFreeSumWithEmptyIdentitySaid := over
end Go.Proofs.Qxb6617702a
