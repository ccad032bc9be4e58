/- A graph argument opened: whatever reads as a slice of slices of ints is a graph in memory. -/
import Derived.Test.YtndkjjfnlpkigaaLaw
import Derived.Test.YtndkjjfnlpkigaaGr
import Derived.Deep.Matrix
namespace Go.Proofs.Ytndkjjfnlpkigaa
open Go.ChangeShapes Go.WideShapes Go.ChangeAt Go.RowKit Go.Deep

theorem cells26 : Try.prog.cellsOf 26 = 1 := by kernel_rfl
theorem cells3 : Try.prog.cellsOf 3 = 1 := by kernel_rfl

theorem open_graph {H : Type} {enc : TypeId × Value → H} {W : World} {base : Nat} {v : Value} {d : DataW H} {p : List MemPlace} (hv : Value.okWide Try.prog W .any base 24 v) (h : DataW.Trod enc Try.prog W 0 (fun _ => true) true 24 v d p) :
    ∃ A k c G, v = .slice A k c ∧ GrIn W (fun _ => True) A k G ∧ k ≤ maxLen := by
  obtain ⟨A0, len, cap, rfl⟩ := okWide_slice Try.underlying24 hv
  obtain ⟨fuel, hf⟩ := h
  rcases open_int_rows Try.underlying24 Try.underlying26 Try.underlying3 cells26 cells3 hf with ⟨hcs, _⟩ | ⟨a, len', cap', A, L, C, Z, hcs, _, hl, hm, _, hr⟩
  · have : A0 = none ∧ len = 0 ∧ cap = 0 := by simpa [Value.cells] using hcs
    obtain ⟨rfl, rfl, rfl⟩ := this
    exact ⟨none, 0, 0, [], rfl, ⟨rfl, fun i hi => by omega⟩, by simp [maxLen]⟩
  · have : A0 = some a ∧ len = len' ∧ cap = cap' := by simpa [Value.cells] using hcs
    obtain ⟨rfl, rfl, rfl⟩ := this
    refine ⟨some a, len, cap, (List.range len).map fun r => (Z r).take (L r), rfl, ⟨by simp, fun i hi => ?_⟩, by omega⟩
    obtain ⟨hc, hLC, hCm, hZ, _, hn, hx⟩ := hr i (by omega)
    have hG : ((List.range len).map fun r => (Z r).take (L r)).getD i [] = (Z i).take (L i) := by
      rw [List.getD_eq_getElem?_getD, List.getElem?_map, List.getElem?_range hi]; rfl
    have hGl : ((Z i).take (L i)).length = L i := by rw [List.length_take]; omega
    have hb : a.block < W.heap.size := by
      have := World.block_lt_of_cell? W _ hc
      rwa [block_of_add] at this
    rw [hG]
    refine ⟨a, A i, C i, rfl, trivial, hb, by rw [hGl]; exact hc, by omega, by simp, fun hp => ?_⟩
    cases hA : A i with
    | none => have := hn hA; omega
    | some a' =>
      obtain ⟨_, hcc⟩ := hx a' hA
      have h0 := hcc 0 (by omega)
      have hb' : a'.block < W.heap.size := by
        have := World.block_lt_of_cell? W _ h0
        rwa [block_of_add] at this
      refine ⟨a', rfl, trivial, hb', fun j u hu => ?_⟩
      have hj : j < L i := by
        have := (List.getElem?_eq_some_iff.1 hu).1
        rw [List.length_map, hGl] at this
        exact this
      rw [hcc j (by omega)]
      rw [List.getElem?_map, List.getElem?_take, if_pos hj, List.getElem?_eq_getElem (by omega)] at hu
      rw [List.getD_eq_getElem?_getD, List.getElem?_eq_getElem (by omega)]
      simpa using hu
end Go.Proofs.Ytndkjjfnlpkigaa
