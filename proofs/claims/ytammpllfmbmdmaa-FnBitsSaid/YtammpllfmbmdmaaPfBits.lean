/- The law FnBits returns true for all steps, and leaves all memory that was there as it was. No condition. -/
import Derived.Test.YtammpllfmbmdmaaOpen
import Derived.Test.YtammpllfmbmdmaaFnBits
namespace Go.Proofs.Ytammpllfmbmdmaa
open Go.ChangeShapes Go.WideShapes Go.ChangeAt Go.RowKit

set_option maxRecDepth 100000 in
theorem fnBits_lifted (os : Os) (started : os.Started) (H : Type) (enc : TypeId × Value → H) :
    ReturnsInHanded {} Try.checked os 7 .any (Rows.fnBitsSpec.pre6 enc Try.prog Try.f7 Rows.fnBitsRow.domain false) (Rows.fnBitsSpec.post enc Try.prog Try.f7 false true false false) := by
  refine returnsInHanded_of_change (C := Try.checked) own_knob started (by kernel_rfl) Try.func7
    (ChangeSpec.witness6 (enc := enc) (C := Try.checked) false ⟨#[], #[.slice none 0 0], []⟩ 8 (by kernel_rfl) (by kernel_rfl) (by kernel_rfl) (by kernel_rfl)) ?_
  intro W base args ds gs before hval0 hW _ _
  have hval : ∀ (j : Nat) t v, Try.f7.params[j]? = some t → args[j]? = some v → Value.okWide Try.prog W .any base t v := hval0
  have hW' : DataW.Whole enc Try.prog Try.f7.params.toList Rows.fnBitsSpec.vars false W args.toList ds gs before := hW
  obtain ⟨p, q, hA, hV, rfl, hfz, hnd⟩ := hW
  replace hA : DataW.TrodAll enc Try.prog W 0 (fun _ => true) true Try.f7.params.toList args.toList ds p := hA
  rw [Try.params7] at hA hval
  obtain ⟨v0, d0, rfl, rfl, h0⟩ := trodAll_one hA
  obtain ⟨rfl, rfl⟩ := trodVars_none hV
  obtain ⟨A, k, c, S, rfl, hs, hk, hkc, hcm, hnil⟩ := open_steps (hval 0 22 v0 rfl rfl) h0
  refine (fnBits_any A k c S W hs hk hkc hcm hnil).mono fun e W' ⟨he, hb⟩ => ?_
  refine ⟨_, he, law_post (tb := 4) laid_out rfl ?_ hW' rfl (by kernel_rfl) Try.underlying4 hb⟩
  rw [Try.params7]
  intro t ht
  simp at ht
  rcases ht with rfl
  exact ⟨by kernel_rfl, of_decide_eq_true (by kernel_rfl)⟩

theorem fnBits_holds : Rows.FnBitsSaid :=
  OpenClaim.holds_of_wide 7 Try.f7 rfl rfl rfl rfl rfl rfl rfl ⟨rfl, rfl, rfl, rfl, rfl⟩ rfl rfl rfl rfl rfl (by kernel_rfl) Try.func7 (by kernel_rfl)
    (of_decide_eq_true (by kernel_rfl)) (by unfold Func.isWrapper; rw [if_neg (of_decide_eq_false (by kernel_rfl))]; exact ⟨rfl, rfl⟩)
    (fun os started H enc _ => fnBits_lifted os started H enc)
#print axioms fnBits_holds
end Go.Proofs.Ytammpllfmbmdmaa
