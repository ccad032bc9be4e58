/- A slice of steps that is handed to a law: whatever reads as one is one in memory. -/
import Derived.Test.YtammpllfmbmdmaaLaw
import Derived.Test.YtammpllfmbmdmaaWk
import Derived.Deep.Matrix
namespace Go.Proofs.Ytammpllfmbmdmaa
open Go.ChangeShapes Go.WideShapes Go.ChangeAt Go.RowKit Go.Deep

theorem cells29 : Try.prog.cellsOf 29 = 8 := by kernel_rfl
theorem cells3 : Try.prog.cellsOf 3 = 1 := by kernel_rfl
theorem cells27 : Try.prog.cellsOf 27 = 1 := by kernel_rfl

set_option maxRecDepth 100000

theorem open_list {H : Type} {enc : TypeId × Value → H} {W : World} {fuel : Nat} {v : Value} {x : DataW H × List MemPlace} (h : DataW.trod enc Try.prog W 0 (fun _ => true) true fuel 27 [v] = some x) :
    ∃ A c xs, v = .slice A xs.length c ∧ SliceIs W (fun _ => True) A xs.length c xs := by
  rcases open_ints Try.underlying27 Try.underlying3 cells3 h with ⟨hcs, _⟩ | ⟨a, len, cap, zs, hcs, _, hl, hm, hz, _, hc, _⟩
  · have : v = .slice none 0 0 := by simpa using hcs
    exact ⟨none, 0, [], this, SliceIs.none_⟩
  · have hv : v = .slice (some a) len cap := by simpa using hcs
    simp only [if_true] at hz
    have hlen : (zs.take len).length = len := by rw [List.length_take]; omega
    refine ⟨some a, cap, zs.take len, by rw [hlen]; exact hv, rfl, by rw [hlen]; exact hl, hm, ⟨by simp, fun h0 => ?_⟩, fun h => by cases h⟩
    rw [hlen] at h0
    have h1 := hc 0 (by omega)
    have hb : a.block < W.heap.size := by
      have := World.block_lt_of_cell? W _ h1
      rwa [block_of_add] at this
    refine ⟨a, rfl, trivial, hb, fun j u hu => ?_⟩
    have hj : j < len := by
      have := (List.getElem?_eq_some_iff.1 hu).1
      rw [List.length_map, hlen] at this
      exact this
    rw [hc j (by omega)]
    rw [List.getElem?_map, List.getElem?_take, if_pos hj, List.getElem?_eq_getElem (by omega)] at hu
    rw [List.getD_eq_getElem?_getD, List.getElem?_eq_getElem (by omega)]
    simpa using hu

theorem open_step {H : Type} {enc : TypeId × Value → H} {W : World} {fuel : Nat} {e : Addr} {cs : List Value} {x : DataW H × List MemPlace} (hc : W.cells? 0 e 8 = some cs) (h : DataW.trod enc Try.prog W 0 (fun _ => true) true fuel 29 cs = some x) :
    ∃ s A c, StepAt W (fun _ => True) e s A c := by
  obtain ⟨_, hlen, hcell⟩ := World.cells?_some hc
  obtain ⟨xs, n, _, _, _, hxl, hf⟩ := DataW.trod_struct Try.underlying29 h
  match xs, hxl, cs, hlen with
  | [y0, y1, y2, y3, y4, y5, y6, y7], _, [v0, v1, v2, v3, v4, v5, v6, v7], _ =>
    have g0 := hf 0 _ rfl
    have g1 := hf 1 _ rfl
    have g2 := hf 2 _ rfl
    have g3 := hf 3 _ rfl
    have g4 := hf 4 _ rfl
    have g5 := hf 5 _ rfl
    have g6 := hf 6 _ rfl
    have g7 := hf 7 _ rfl
    simp [cells3, cells27] at g0 g1 g2 g3 g4 g5 g6 g7
    obtain ⟨n0, q0, _, _⟩ := DataW.trod_int Try.underlying3 g0
    obtain ⟨n1, q1, _, _⟩ := DataW.trod_int Try.underlying3 g1
    obtain ⟨n2, q2, _, _⟩ := DataW.trod_int Try.underlying3 g2
    obtain ⟨n3, q3, _, _⟩ := DataW.trod_int Try.underlying3 g3
    obtain ⟨n4, q4, _, _⟩ := DataW.trod_int Try.underlying3 g4
    obtain ⟨n5, q5, _, _⟩ := DataW.trod_int Try.underlying3 g5
    obtain ⟨n6, q6, _, _⟩ := DataW.trod_int Try.underlying3 g6
    obtain ⟨A, c, l, q7, hl⟩ := open_list g7
    have add0 : e.add 0 = e := rfl
    have addq : ∀ q, 0 < q → e.add q = ⟨e.block, e.off + q, none⟩ := fun q hq => by unfold Addr.add; rw [if_neg (by omega)]
    have c0 := hcell 0 (by omega)
    have c1 := hcell 1 (by omega)
    have c2 := hcell 2 (by omega)
    have c3 := hcell 3 (by omega)
    have c4 := hcell 4 (by omega)
    have c5 := hcell 5 (by omega)
    have c6 := hcell 6 (by omega)
    have c7 := hcell 7 (by omega)
    rw [add0] at c0
    rw [addq _ (by omega)] at c1 c2 c3 c4 c5 c6 c7
    simp at q0 q1 q2 q3 q4 q5 q6
    subst q0 q1 q2 q3 q4 q5 q6 q7
    exact ⟨⟨n0, n1, n2, n3, n4, n5, n6, l⟩, A, c, ⟨trivial, World.block_lt_of_cell? W _ c0⟩, hl, c0, c1, c2, c3, c4, c5, c6, c7⟩

theorem open_steps {H : Type} {enc : TypeId × Value → H} {W : World} {base : Nat} {v : Value} {d : DataW H} {p : List MemPlace} (hv : Value.okWide Try.prog W .any base 22 v) (h : DataW.Trod enc Try.prog W 0 (fun _ => true) true 22 v d p) :
    ∃ A k c S, v = .slice A k c ∧ StepsIn W (fun _ => True) A k S ∧ k ≤ maxLen ∧ k ≤ c ∧ c ≤ maxLen ∧ (A = none → c = 0) := by
  obtain ⟨A0, len, cap, rfl⟩ := okWide_slice Try.underlying22 hv
  obtain ⟨fuel, hf⟩ := h
  rcases open_slice Try.underlying22 hf with ⟨hcs, _⟩ | ⟨a, len', cap', m, n, D, Pl, hcs, _, hl, hm, hmm, _, hx⟩
  · have : A0 = none ∧ len = 0 ∧ cap = 0 := by simpa [Value.cells] using hcs
    obtain ⟨rfl, rfl, rfl⟩ := this
    exact ⟨none, 0, 0, [], rfl, ⟨rfl, fun i hi => by omega⟩, by simp [maxLen], Nat.le_refl _, by simp [maxLen], fun _ => rfl⟩
  · have : A0 = some a ∧ len = len' ∧ cap = cap' := by simpa [Value.cells] using hcs
    obtain ⟨rfl, rfl, rfl⟩ := this
    simp only [if_true] at hmm
    subst hmm
    have each : ∀ i, i < len → ∃ q : StepD × Option Addr × Nat, StepAt W (fun _ => True) (a.add (i * 8)) q.1 q.2.1 q.2.2 := by
      intro i hi
      obtain ⟨cs', h1, h2⟩ := hx i (by omega)
      rw [cells29] at h1
      obtain ⟨s, A, c, hst⟩ := open_step h1 h2
      exact ⟨(s, A, c), hst⟩
    haveI : Inhabited StepD := ⟨⟨0, 0, 0, 0, 0, 0, 0, []⟩⟩
    obtain ⟨q, hq⟩ := choose_lt each
    refine ⟨some a, len, m, (List.range len).map (fun i => (q i).1), rfl, ⟨by simp, fun i hi => ⟨a, (q i).1, (q i).2.1, (q i).2.2, rfl, ?_, hq i hi⟩⟩, by omega, hl, hm, fun h => by cases h⟩
    rw [List.getElem?_map, List.getElem?_range hi]; rfl
end Go.Proofs.Ytammpllfmbmdmaa
