/- The law FnWalk returns true for every graph and all nodes, and leaves all memory that was there as it was. No condition. -/
import Derived.Test.YtndkjjfnlpkigaaOpen
import Derived.Test.YtndkjjfnlpkigaaFnWalk
namespace Go.Proofs.Ytndkjjfnlpkigaa
open Go.ChangeShapes Go.WideShapes Go.ChangeAt Go.RowKit

set_option maxRecDepth 100000 in
theorem fnWalk_lifted (os : Os) (started : os.Started) (H : Type) (enc : TypeId × Value → H) :
    ReturnsInHanded {} Try.checked os 5 .any (Rows.fnWalkSpec.pre6 enc Try.prog Try.f5 Rows.fnWalkRow.domain false) (Rows.fnWalkSpec.post enc Try.prog Try.f5 false true false false) := by
  refine returnsInHanded_of_change (C := Try.checked) own_knob started (by kernel_rfl) Try.func5
    (ChangeSpec.witness6 (enc := enc) (C := Try.checked) false ⟨#[], #[.bool false, .slice none 0 0, .int .i64 0, .int .i64 0], []⟩ 8 (by kernel_rfl) (by kernel_rfl) (by kernel_rfl) (by kernel_rfl)) ?_
  intro W base args ds gs before hval0 hW _ _
  have hval : ∀ (j : Nat) t v, Try.f5.params[j]? = some t → args[j]? = some v → Value.okWide Try.prog W .any base t v := hval0
  have hW' : DataW.Whole enc Try.prog Try.f5.params.toList Rows.fnWalkSpec.vars false W args.toList ds gs before := hW
  obtain ⟨p, q, hA, hV, rfl, hfz, hnd⟩ := hW
  replace hA : DataW.TrodAll enc Try.prog W 0 (fun _ => true) true Try.f5.params.toList args.toList ds p := hA
  rw [Try.params5] at hA hval
  obtain ⟨v0, v1, v2, v3, d0, d1, d2, d3, p0, p1, p2, p3, rfl, rfl, rfl, h0, h1, h2, h3⟩ := trodAll_four hA
  obtain ⟨rfl, rfl⟩ := trodVars_none hV
  obtain ⟨br, rfl, rfl, rfl⟩ := open_bool Try.underlying4 (hval 0 4 v0 rfl rfl) h0
  obtain ⟨A, k, c, G, rfl, hg, hk⟩ := open_graph (hval 1 24 v1 rfl rfl) h1
  obtain ⟨a, rfl, rfl, rfl, _⟩ := open_int Try.underlying3 (hval 2 3 v2 rfl rfl) h2
  obtain ⟨z, rfl, rfl, rfl, _⟩ := open_int Try.underlying3 (hval 3 3 v3 rfl rfl) h3
  refine (fnWalk_any br A k c G a z W hg hk).mono fun e W' ⟨he, hb⟩ => ?_
  refine ⟨_, he, law_post (tb := 4) laid_out rfl ?_ hW' rfl (by kernel_rfl) Try.underlying4 hb⟩
  rw [Try.params5]
  intro t ht
  simp at ht
  rcases ht with rfl | rfl | rfl
  · exact ⟨by kernel_rfl, of_decide_eq_true (by kernel_rfl)⟩
  · exact ⟨by kernel_rfl, of_decide_eq_true (by kernel_rfl)⟩
  · exact ⟨by kernel_rfl, of_decide_eq_true (by kernel_rfl)⟩

theorem fnWalk_holds : Rows.FnWalkSaid :=
  OpenClaim.holds_of_wide 5 Try.f5 rfl rfl rfl rfl rfl rfl rfl ⟨rfl, rfl, rfl, rfl, rfl⟩ rfl rfl rfl rfl rfl (by kernel_rfl) Try.func5 (by kernel_rfl)
    (of_decide_eq_true (by kernel_rfl)) (by unfold Func.isWrapper; rw [if_neg (of_decide_eq_false (by kernel_rfl))]; exact ⟨rfl, rfl⟩)
    (fun os started H enc _ => fnWalk_lifted os started H enc)
#print axioms fnWalk_holds
end Go.Proofs.Ytndkjjfnlpkigaa
