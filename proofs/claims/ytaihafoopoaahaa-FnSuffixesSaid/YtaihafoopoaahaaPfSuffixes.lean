/- The law FnSuffixes returns true for all bytes, and leaves all memory that was there as it was. No condition. -/
import Derived.Test.YtaihafoopoaahaaLaw
import Derived.Test.YtaihafoopoaahaaCl
import Derived.Deep.Matrix
namespace Go.Proofs.Ytaihafoopoaahaa
open Go.ChangeShapes Go.WideShapes Go.ChangeAt Go.RowKit Go.Deep

theorem cells5 : Try.prog.cellsOf 5 = 1 := by kernel_rfl
set_option maxRecDepth 100000 in
theorem open_bytes {H : Type} {enc : TypeId × Value → H} {W : World} {base : Nat} {v : Value} {x : DataW H} {p : List MemPlace} (hv : Value.okWide Try.prog W .any base 22 v) (h : DataW.Trod enc Try.prog W 0 (fun _ => true) true 22 v x p) :
    ∃ (A : Option Addr) (c : Nat) (D : Bs), v = .slice A D.length c ∧ Reads W (fun _ => True) 1 A D.length (bts D) ∧ (A = none → D.length = 0 ∧ c = 0) := by
  obtain ⟨A0, len0, cap0, rfl⟩ := okWide_slice Try.underlying22 hv
  obtain ⟨fuel, h⟩ := h
  rcases open_ints Try.underlying22 Try.underlying5 cells5 h with ⟨hcs, _⟩ | ⟨a, len, cap, zs, hcs, _, hl, hm, hz, _, hc, hwf⟩
  · have : Value.slice A0 len0 cap0 = .slice none 0 0 := by simpa [Value.cells] using hcs
    exact ⟨none, 0, [], this, ⟨rfl, fun h => absurd h (by simp)⟩, fun _ => ⟨rfl, rfl⟩⟩
  · have hv : Value.slice A0 len0 cap0 = .slice (some a) len cap := by simpa [Value.cells] using hcs
    simp only [if_true] at hz
    have hrange : ∀ z ∈ zs, 0 ≤ z ∧ z < 256 := fun z hzz => by
      have := hwf z hzz
      have h1 : IntKind.u8.min ≤ z ∧ z ≤ IntKind.u8.max := by simpa [Lit.wf] using this
      have h2 : IntKind.u8.min = 0 := by decide
      have h3 : IntKind.u8.max = 255 := by decide
      omega
    have hlen : ((zs.take len).map (fun z => UInt8.ofNat z.toNat)).length = len := by rw [List.length_map, List.length_take]; omega
    refine ⟨some a, cap, (zs.take len).map (fun z => UInt8.ofNat z.toNat), by rw [hlen]; exact hv, ⟨by rw [List.length_map, Nat.mul_one], fun h0 => ?_⟩, (fun h => by cases h)⟩
    rw [hlen] at h0
    have h1 := hc 0 (by omega)
    have hb : a.block < W.heap.size := by
      have := World.block_lt_of_cell? W _ h1
      rwa [block_of_add] at this
    refine ⟨a, rfl, trivial, hb, fun j u hu => ?_⟩
    have hj : j < len := by
      have := (List.getElem?_eq_some_iff.1 hu).1
      rw [List.length_map, hlen] at this
      exact this
    rw [hc j (by omega)]
    rw [List.getElem?_map, List.getElem?_map, List.getElem?_take, if_pos hj, List.getElem?_eq_getElem (by omega)] at hu
    rw [List.getD_eq_getElem?_getD, List.getElem?_eq_getElem (by omega)]
    have hr := hrange zs[j] (List.getElem_mem _)
    simp at hu
    simp
    rw [← hu]
    congr 1
    omega

set_option maxRecDepth 100000 in
theorem fnSuffixes_lifted (os : Os) (started : os.Started) (H : Type) (enc : TypeId × Value → H) :
    ReturnsInHanded {} Try.checked os 3 .any (Rows.fnSuffixesSpec.pre6 enc Try.prog Try.f3 Rows.fnSuffixesRow.domain false) (Rows.fnSuffixesSpec.post enc Try.prog Try.f3 false true false false) := by
  refine returnsInHanded_of_change (C := Try.checked) own_knob started (by kernel_rfl) Try.func3
    (ChangeSpec.witness6 (enc := enc) (C := Try.checked) false ⟨#[], #[.slice none 0 0], []⟩ 8 (by kernel_rfl) (by kernel_rfl) (by kernel_rfl) (by kernel_rfl)) ?_
  intro W base args ds gs before hval0 hW _ _
  have hval : ∀ (j : Nat) t v, Try.f3.params[j]? = some t → args[j]? = some v → Value.okWide Try.prog W .any base t v := hval0
  have hW' : DataW.Whole enc Try.prog Try.f3.params.toList Rows.fnSuffixesSpec.vars false W args.toList ds gs before := hW
  obtain ⟨p, q, hA, hV, rfl, hfz, hnd⟩ := hW
  replace hA : DataW.TrodAll enc Try.prog W 0 (fun _ => true) true Try.f3.params.toList args.toList ds p := hA
  rw [Try.params3] at hA hval
  obtain ⟨v0, d0, rfl, rfl, h0⟩ := trodAll_one hA
  obtain ⟨rfl, rfl⟩ := trodVars_none hV
  obtain ⟨A, c, D, rfl, hr, hnil⟩ := open_bytes (hval 0 22 v0 rfl rfl) h0
  refine (fnSuffixes_any D _ A c W hr hnil).mono fun e W' ⟨he, hb⟩ => ?_
  refine ⟨_, he, law_post (tb := 4) laid_out rfl ?_ hW' rfl (by kernel_rfl) Try.underlying4 hb⟩
  rw [Try.params3]
  intro t ht
  simp at ht
  rcases ht with rfl
  exact ⟨by kernel_rfl, of_decide_eq_true (by kernel_rfl)⟩

theorem fnSuffixes_holds : Rows.FnSuffixesSaid :=
  OpenClaim.holds_of_wide 3 Try.f3 rfl rfl rfl rfl rfl rfl rfl ⟨rfl, rfl, rfl, rfl, rfl⟩ rfl rfl rfl rfl rfl (by kernel_rfl) Try.func3 (by kernel_rfl)
    (of_decide_eq_true (by kernel_rfl)) (by unfold Func.isWrapper; rw [if_neg (of_decide_eq_false (by kernel_rfl))]; exact ⟨rfl, rfl⟩)
    (fun os started H enc _ => fnSuffixes_lifted os started H enc)
#print axioms fnSuffixes_holds
end Go.Proofs.Ytaihafoopoaahaa
