/- The law FnCommon returns true for all texts, and leaves all memory that was there as it was. No condition. -/
import Derived.Test.YtaihafoopoaahaaLaw
import Derived.Test.YtaihafoopoaahaaCn
import Derived.Deep.Matrix
namespace Go.Proofs.Ytaihafoopoaahaa
open Go.ChangeShapes Go.WideShapes Go.ChangeAt Go.RowKit Go.Deep

theorem cellsOne5 : Try.prog.cellsOf 5 = 1 := by kernel_rfl
theorem cellsOne22 : Try.prog.cellsOf 22 = 1 := by kernel_rfl

theorem open_texts {H : Type} {enc : TypeId × Value → H} {W : World} {base : Nat} {v : Value} {d : DataW H} {p : List MemPlace} (hv : Value.okWide Try.prog W .any base 27 v) (h : DataW.Trod enc Try.prog W 0 (fun _ => true) true 27 v d p) :
    ∃ A k c T AT cT, v = .slice A k c ∧ Txs W A k T AT cT := by
  obtain ⟨A0, len, cap, rfl⟩ := okWide_slice Try.underlying27 hv
  obtain ⟨fuel, hf⟩ := h
  rcases open_int_rows Try.underlying27 Try.underlying22 Try.underlying5 cellsOne22 cellsOne5 hf with ⟨hcs, _⟩ | ⟨a, len', cap', A, L, C, Z, hcs, _, hl, hm, _, hr⟩
  · have : A0 = none ∧ len = 0 ∧ cap = 0 := by simpa [Value.cells] using hcs
    obtain ⟨rfl, rfl, rfl⟩ := this
    exact ⟨none, 0, 0, fun _ => [], fun _ => none, fun _ => 0, rfl, ⟨fun i hi => by omega, fun i hi => by omega, fun i hi => by omega, fun i hi => by omega⟩⟩
  · have : A0 = some a ∧ len = len' ∧ cap = cap' := by simpa [Value.cells] using hcs
    obtain ⟨rfl, rfl, rfl⟩ := this
    have hT : ∀ i, i < len → (((Z i).take (L i)).map (fun z => UInt8.ofNat z.toNat)).length = L i := fun i hi => by
      obtain ⟨_, hLC, _, hZ, _⟩ := hr i (by omega)
      rw [List.length_map, List.length_take]; omega
    refine ⟨some a, len, cap, fun i => ((Z i).take (L i)).map (fun z => UInt8.ofNat z.toNat), A, C, rfl, ⟨fun i hi => ?_, fun i hi => ?_, fun i hi => ?_, fun i hi hA => ?_⟩⟩
    · obtain ⟨hc, _⟩ := hr i (by omega)
      have hb : a.block < W.heap.size := by
        have := World.block_lt_of_cell? W _ hc
        rwa [block_of_add] at this
      exact ⟨a, rfl, hb, by rw [hT i hi]; exact hc⟩
    · obtain ⟨hc, hLC, hCm, hZ, hwf, hn, hx⟩ := hr i (by omega)
      have hl2 := hT i hi
      refine ⟨by rw [List.length_map, Nat.mul_one], fun hp => ?_⟩
      cases hA : A i with
      | none => have := hn hA; omega
      | some a' =>
        obtain ⟨_, hcc⟩ := hx a' hA
        have h0 := hcc 0 (by omega)
        have hb' : a'.block < W.heap.size := by
          have := World.block_lt_of_cell? W _ h0
          rwa [block_of_add] at this
        refine ⟨a', rfl, hb', hb', fun j u hu => ?_⟩
        have hj : j < L i := by
          have := (List.getElem?_eq_some_iff.1 hu).1
          rw [List.length_map, hl2] at this
          exact this
        rw [hcc j (by omega)]
        rw [List.getElem?_map, List.getElem?_map, List.getElem?_take, if_pos hj, List.getElem?_eq_getElem (by omega)] at hu
        rw [List.getD_eq_getElem?_getD, List.getElem?_eq_getElem (by omega)]
        have h1 : (Lit.int .u8 (Z i)[j]).wf = true := hwf _ (List.getElem_mem _)
        have h2 : IntKind.u8.min ≤ (Z i)[j] ∧ (Z i)[j] ≤ IntKind.u8.max := by simpa [Lit.wf] using h1
        have h3 : IntKind.u8.min = 0 := by decide
        have h4 : IntKind.u8.max = 255 := by decide
        simp at hu
        simp
        rw [← hu]
        congr 1
        omega
    · obtain ⟨_, hLC, _⟩ := hr i (by omega)
      have hl2 := hT i hi
      show (((Z i).take (L i)).map (fun z => UInt8.ofNat z.toNat)).length ≤ C i
      omega
    · obtain ⟨_, _, _, _, _, hn, _⟩ := hr i (by omega)
      exact hn hA

set_option maxRecDepth 100000 in
theorem fnCommon_lifted (os : Os) (started : os.Started) (H : Type) (enc : TypeId × Value → H) :
    ReturnsInHanded {} Try.checked os 4 .any (Rows.fnCommonSpec.pre6 enc Try.prog Try.f4 Rows.fnCommonRow.domain false) (Rows.fnCommonSpec.post enc Try.prog Try.f4 false true false false) := by
  refine returnsInHanded_of_change (C := Try.checked) own_knob started (by kernel_rfl) Try.func4
    (ChangeSpec.witness6 (enc := enc) (C := Try.checked) false ⟨#[], #[.slice none 0 0], []⟩ 8 (by kernel_rfl) (by kernel_rfl) (by kernel_rfl) (by kernel_rfl)) ?_
  intro W base args ds gs before hval0 hW _ _
  have hval : ∀ (j : Nat) t v, Try.f4.params[j]? = some t → args[j]? = some v → Value.okWide Try.prog W .any base t v := hval0
  have hW' : DataW.Whole enc Try.prog Try.f4.params.toList Rows.fnCommonSpec.vars false W args.toList ds gs before := hW
  obtain ⟨p, q, hA, hV, rfl, hfz, hnd⟩ := hW
  replace hA : DataW.TrodAll enc Try.prog W 0 (fun _ => true) true Try.f4.params.toList args.toList ds p := hA
  rw [Try.params4] at hA hval
  obtain ⟨v0, d0, rfl, rfl, h0⟩ := trodAll_one hA
  obtain ⟨rfl, rfl⟩ := trodVars_none hV
  obtain ⟨A, k, c, T, AT, cT, rfl, hT⟩ := open_texts (hval 0 27 v0 rfl rfl) h0
  refine (fnCommon_any k T AT cT A c W hT).mono fun e W' ⟨he, hb⟩ => ?_
  refine ⟨_, he, law_post (tb := 4) laid_out rfl ?_ hW' rfl (by kernel_rfl) Try.underlying4 hb⟩
  rw [Try.params4]
  intro t ht
  simp at ht
  rcases ht with rfl
  exact ⟨by kernel_rfl, of_decide_eq_true (by kernel_rfl)⟩

theorem fnCommon_holds : Rows.FnCommonSaid :=
  OpenClaim.holds_of_wide 4 Try.f4 rfl rfl rfl rfl rfl rfl rfl ⟨rfl, rfl, rfl, rfl, rfl⟩ rfl rfl rfl rfl rfl (by kernel_rfl) Try.func4 (by kernel_rfl)
    (of_decide_eq_true (by kernel_rfl)) (by unfold Func.isWrapper; rw [if_neg (of_decide_eq_false (by kernel_rfl))]; exact ⟨rfl, rfl⟩)
    (fun os started H enc _ => fnCommon_lifted os started H enc)
#print axioms fnCommon_holds
end Go.Proofs.Ytaihafoopoaahaa
