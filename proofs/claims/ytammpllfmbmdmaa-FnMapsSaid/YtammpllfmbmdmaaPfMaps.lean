/- The law FnMaps returns true for every modulus and all steps, and leaves all memory that was there as it was. No condition. -/
import Derived.Test.YtammpllfmbmdmaaOpen
import Derived.Test.YtammpllfmbmdmaaFnMaps
namespace Go.Proofs.Ytammpllfmbmdmaa
open Go.ChangeShapes Go.WideShapes Go.ChangeAt Go.RowKit

theorem okI_wf' {z : Int} (h : (Lit.int .i64 z).wf = true) : okI z := by
  have e : IntKind.i64.min = -9223372036854775808 := by decide
  simp [Lit.wf] at h
  rw [e] at h
  exact h

set_option maxRecDepth 100000 in
theorem fnMaps_lifted (os : Os) (started : os.Started) (H : Type) (enc : TypeId × Value → H) :
    ReturnsInHanded {} Try.checked os 8 .any (Rows.fnMapsSpec.pre6 enc Try.prog Try.f8 Rows.fnMapsRow.domain false) (Rows.fnMapsSpec.post enc Try.prog Try.f8 false true false false) := by
  refine returnsInHanded_of_change (C := Try.checked) own_knob started (by kernel_rfl) Try.func8
    (ChangeSpec.witness6 (enc := enc) (C := Try.checked) false ⟨#[], #[.int .i64 0, .slice none 0 0], []⟩ 8 (by kernel_rfl) (by kernel_rfl) (by kernel_rfl) (by kernel_rfl)) ?_
  intro W base args ds gs before hval0 hW _ _
  have hval : ∀ (j : Nat) t v, Try.f8.params[j]? = some t → args[j]? = some v → Value.okWide Try.prog W .any base t v := hval0
  have hW' : DataW.Whole enc Try.prog Try.f8.params.toList Rows.fnMapsSpec.vars false W args.toList ds gs before := hW
  obtain ⟨p, q, hA, hV, rfl, hfz, hnd⟩ := hW
  replace hA : DataW.TrodAll enc Try.prog W 0 (fun _ => true) true Try.f8.params.toList args.toList ds p := hA
  rw [Try.params8] at hA hval
  obtain ⟨v0, v1, d0, d1, p0, p1, rfl, rfl, rfl, h0, h1⟩ := trodAll_two hA
  obtain ⟨rfl, rfl⟩ := trodVars_none hV
  obtain ⟨z, rfl, rfl, rfl, hwz⟩ := open_int Try.underlying3 (hval 0 3 v0 rfl rfl) h0
  obtain ⟨A, k, c, S, rfl, hs, hk, hkc, hcm, hnil⟩ := open_steps (hval 1 22 v1 rfl rfl) h1
  refine (fnMaps_any z A k c S W (okI_wf' hwz) hs hk hkc hcm hnil).mono fun e W' ⟨he, hb⟩ => ?_
  refine ⟨_, he, law_post (tb := 4) laid_out rfl ?_ hW' rfl (by kernel_rfl) Try.underlying4 hb⟩
  rw [Try.params8]
  intro t ht
  simp at ht
  rcases ht with rfl | rfl
  · exact ⟨by kernel_rfl, of_decide_eq_true (by kernel_rfl)⟩
  · exact ⟨by kernel_rfl, of_decide_eq_true (by kernel_rfl)⟩

theorem fnMaps_holds : Rows.FnMapsSaid :=
  OpenClaim.holds_of_wide 8 Try.f8 rfl rfl rfl rfl rfl rfl rfl ⟨rfl, rfl, rfl, rfl, rfl⟩ rfl rfl rfl rfl rfl (by kernel_rfl) Try.func8 (by kernel_rfl)
    (of_decide_eq_true (by kernel_rfl)) (by unfold Func.isWrapper; rw [if_neg (of_decide_eq_false (by kernel_rfl))]; exact ⟨rfl, rfl⟩)
    (fun os started H enc _ => fnMaps_lifted os started H enc)
#print axioms fnMaps_holds
end Go.Proofs.Ytammpllfmbmdmaa
