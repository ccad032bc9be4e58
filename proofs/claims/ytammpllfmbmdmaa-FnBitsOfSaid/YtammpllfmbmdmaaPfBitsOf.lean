/- The law FnBitsOf returns true for all bytes, and leaves all memory that was there as it was. No condition. -/
import Derived.Test.YtammpllfmbmdmaaOpen
import Derived.Test.YtammpllfmbmdmaaFnBitsOf
namespace Go.Proofs.Ytammpllfmbmdmaa
open Go.ChangeShapes Go.WideShapes Go.ChangeAt Go.RowKit

theorem cells5 : Try.prog.cellsOf 5 = 1 := by kernel_rfl
set_option maxRecDepth 100000 in
theorem open_bytes {H : Type} {enc : TypeId × Value → H} {W : World} {base : Nat} {v : Value} {x : DataW H} {p : List MemPlace} (hv : Value.okWide Try.prog W .any base 43 v) (h : DataW.Trod enc Try.prog W 0 (fun _ => true) true 43 v x p) :
    ∃ A n c D, v = .slice A n c ∧ Reads W (fun _ => True) 1 A n (bytes D) ∧ (A = none → n = 0 ∧ c = 0) ∧ ∀ b ∈ D, b < 256 := by
  obtain ⟨A0, len0, cap0, rfl⟩ := okWide_slice Try.underlying43 hv
  obtain ⟨fuel, h⟩ := h
  rcases open_ints Try.underlying43 Try.underlying5 cells5 h with ⟨hcs, _⟩ | ⟨a, len, cap, zs, hcs, _, hl, hm, hz, _, hc, hwf⟩
  · have : Value.slice A0 len0 cap0 = .slice none 0 0 := by simpa [Value.cells] using hcs
    exact ⟨none, 0, 0, [], this, ⟨rfl, fun h => absurd h (by omega)⟩, fun _ => ⟨rfl, rfl⟩, fun b hb => by cases hb⟩
  · have hv : Value.slice A0 len0 cap0 = .slice (some a) len cap := by simpa [Value.cells] using hcs
    simp only [if_true] at hz
    have hrange : ∀ z ∈ zs, 0 ≤ z ∧ z < 256 := fun z hzz => by
      have := hwf z hzz
      have h1 : IntKind.u8.min ≤ z ∧ z ≤ IntKind.u8.max := by simpa [Lit.wf] using this
      have h2 : IntKind.u8.min = 0 := by decide
      have h3 : IntKind.u8.max = 255 := by decide
      omega
    have hlen : ((zs.take len).map Int.toNat).length = len := by rw [List.length_map, List.length_take]; omega
    refine ⟨some a, len, cap, (zs.take len).map Int.toNat, hv, ⟨by rw [List.length_map, hlen]; omega, fun h0 => ?_⟩, (fun h => by cases h), fun b hb => ?_⟩
    · have h1 := hc 0 (by omega)
      have hb : a.block < W.heap.size := by
        have := World.block_lt_of_cell? W _ h1
        rwa [block_of_add] at this
      refine ⟨a, rfl, trivial, hb, fun j u hu => ?_⟩
      have hj : j < len := by
        have := (List.getElem?_eq_some_iff.1 hu).1
        rw [List.length_map, hlen] at this
        exact this
      rw [hc j (by omega)]
      rw [List.getElem?_map, List.getElem?_map, List.getElem?_take, if_pos hj, List.getElem?_eq_getElem (by omega)] at hu
      rw [List.getD_eq_getElem?_getD, List.getElem?_eq_getElem (by omega)]
      have hr := hrange zs[j] (List.getElem_mem _)
      simp at hu
      simp
      rw [← hu]
      congr 1
      omega
    · obtain ⟨z, hz1, rfl⟩ := List.mem_map.1 hb
      have := hrange z (List.mem_of_mem_take hz1)
      omega

set_option maxRecDepth 100000 in
theorem fnBitsOf_lifted (os : Os) (started : os.Started) (H : Type) (enc : TypeId × Value → H) :
    ReturnsInHanded {} Try.checked os 6 .any (Rows.fnBitsOfSpec.pre6 enc Try.prog Try.f6 Rows.fnBitsOfRow.domain false) (Rows.fnBitsOfSpec.post enc Try.prog Try.f6 false true false false) := by
  refine returnsInHanded_of_change (C := Try.checked) own_knob started (by kernel_rfl) Try.func6
    (ChangeSpec.witness6 (enc := enc) (C := Try.checked) false ⟨#[], #[.slice none 0 0], []⟩ 8 (by kernel_rfl) (by kernel_rfl) (by kernel_rfl) (by kernel_rfl)) ?_
  intro W base args ds gs before hval0 hW _ _
  have hval : ∀ (j : Nat) t v, Try.f6.params[j]? = some t → args[j]? = some v → Value.okWide Try.prog W .any base t v := hval0
  have hW' : DataW.Whole enc Try.prog Try.f6.params.toList Rows.fnBitsOfSpec.vars false W args.toList ds gs before := hW
  obtain ⟨p, q, hA, hV, rfl, hfz, hnd⟩ := hW
  replace hA : DataW.TrodAll enc Try.prog W 0 (fun _ => true) true Try.f6.params.toList args.toList ds p := hA
  rw [Try.params6] at hA hval
  obtain ⟨v0, d0, rfl, rfl, h0⟩ := trodAll_one hA
  obtain ⟨rfl, rfl⟩ := trodVars_none hV
  obtain ⟨A, n, c, D, rfl, hr, hnil, hlt⟩ := open_bytes (hval 0 43 v0 rfl rfl) h0
  refine (fnBitsOf_any A n c D W hr hnil hlt).mono fun e W' ⟨he, hb⟩ => ?_
  refine ⟨_, he, law_post (tb := 4) laid_out rfl ?_ hW' rfl (by kernel_rfl) Try.underlying4 hb⟩
  rw [Try.params6]
  intro t ht
  simp at ht
  rcases ht with rfl
  exact ⟨by kernel_rfl, of_decide_eq_true (by kernel_rfl)⟩

theorem fnBitsOf_holds : Rows.FnBitsOfSaid :=
  OpenClaim.holds_of_wide 6 Try.f6 rfl rfl rfl rfl rfl rfl rfl ⟨rfl, rfl, rfl, rfl, rfl⟩ rfl rfl rfl rfl rfl (by kernel_rfl) Try.func6 (by kernel_rfl)
    (of_decide_eq_true (by kernel_rfl)) (by unfold Func.isWrapper; rw [if_neg (of_decide_eq_false (by kernel_rfl))]; exact ⟨rfl, rfl⟩)
    (fun os started H enc _ => fnBitsOf_lifted os started H enc)
#print axioms fnBitsOf_holds
end Go.Proofs.Ytammpllfmbmdmaa
