/- The law FnReverse returns true for every text, and leaves all memory that was there as it was. No condition. -/
import Derived.Test.YtndkjjfnlpkigaaLaw
import Derived.Test.YtndkjjfnlpkigaaRev
namespace Go.Proofs.Ytndkjjfnlpkigaa
open Go.ChangeShapes Go.WideShapes Go.ChangeAt Go.RowKit
open Go.ChangeMaps (open_string shut_string)

set_option maxRecDepth 100000 in
theorem fnReverse_lifted (os : Os) (started : os.Started) (H : Type) (enc : TypeId × Value → H) :
    ReturnsInHanded {} Try.checked os 3 .any (Rows.fnReverseSpec.pre6 enc Try.prog Try.f3 Rows.fnReverseRow.domain false) (Rows.fnReverseSpec.post enc Try.prog Try.f3 false true false false) := by
  refine returnsInHanded_of_change (C := Try.checked) own_knob started (by kernel_rfl) Try.func3
    (ChangeSpec.witness6 (enc := enc) (C := Try.checked) false ⟨#[], #[.string ByteArray.empty], []⟩ 8 (by kernel_rfl) (by kernel_rfl) (by kernel_rfl) (by kernel_rfl)) ?_
  intro W base args ds gs before hval0 hW _ _
  have hval : ∀ (j : Nat) t v, Try.f3.params[j]? = some t → args[j]? = some v → Value.okWide Try.prog W .any base t v := hval0
  have hW0 : DataW.Whole enc Try.prog Try.f3.params.toList Rows.fnReverseSpec.vars false W args.toList ds gs before := hW
  have hW' := hW0
  obtain ⟨p, q, hA, hV, rfl, hfz, hnd⟩ := hW
  replace hA : DataW.TrodAll enc Try.prog W 0 (fun _ => true) true Try.f3.params.toList args.toList ds p := hA
  rw [Try.params3] at hA hval
  obtain ⟨v0, d0, rfl, rfl, h0⟩ := trodAll_one hA
  obtain ⟨rfl, rfl⟩ := trodVars_none hV
  obtain ⟨a0, rfl, rfl, rfl, w0⟩ := open_string Try.underlying9 (hval 0 9 v0 rfl rfl) h0
  refine (fnReverse_any a0 W w0).mono fun e W' ⟨he, hb⟩ => ?_
  exact ⟨_, he, law_post (tb := 4) laid_out rfl (by rw [Try.params3]; intro t ht; simp at ht; subst ht; exact ⟨by kernel_rfl, of_decide_eq_true (by kernel_rfl)⟩) hW' rfl (by kernel_rfl) Try.underlying4 hb⟩

theorem fnReverse_holds : Rows.FnReverseSaid :=
  OpenClaim.holds_of_wide 3 Try.f3 rfl rfl rfl rfl rfl rfl rfl ⟨rfl, rfl, rfl, rfl, rfl⟩ rfl rfl rfl rfl rfl (by kernel_rfl) Try.func3 (by kernel_rfl)
    (of_decide_eq_true (by kernel_rfl)) (by unfold Func.isWrapper; rw [if_neg (of_decide_eq_false (by kernel_rfl))]; exact ⟨rfl, rfl⟩)
    (fun os started H enc _ => fnReverse_lifted os started H enc)
#print axioms fnReverse_holds
end Go.Proofs.Ytndkjjfnlpkigaa
