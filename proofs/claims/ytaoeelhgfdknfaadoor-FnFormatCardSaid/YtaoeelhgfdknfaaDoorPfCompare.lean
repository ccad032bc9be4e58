/- The law FnCompare returns true for all versions, and leaves all memory that was there as it was: the row, and the tied card. The row is under the condition that the five listed variables of Go's library hold what their initialisers lay; the card ties them to the program's text. -/
import Derived.Test.YtaoeelhgfdknfaaDoorLaw
import Derived.Test.YtaoeelhgfdknfaaDoorTie
import Derived.Test.YtaoeelhgfdknfaaDoorCards
import Derived.Test.YtaoeelhgfdknfaaDoorW9
import Derived.LaidMore
import Derived.Stop.Joined
import Derived.SevenTiedAt
namespace Go.Proofs.YtaoeelhgfdknfaaDoor
open Go.ChangeShapes Go.WideShapes Go.ChangeAt Go.RowKit

theorem cells2 : Tryd.prog.cellsOf 2 = 1 := by kernel_rfl
theorem cells9 : Tryd.prog.cellsOf 9 = 1 := by kernel_rfl
theorem cells23 : Tryd.prog.cellsOf 23 = 5 := by kernel_rfl

set_option maxRecDepth 100000 in
theorem open_version {H : Type} {enc : TypeId × Value → H} {W : World} {base : Nat} {v : Value} {d : DataW H} {p : List MemPlace} (hv : Value.okWide Tryd.prog W .any base 23 v) (h : DataW.Trod enc Tryd.prog W 0 (fun _ => true) true 23 v d p) : ∃ a : Ver, v = .agg a.cells := by
  obtain ⟨cs, rfl, hsz⟩ := okWide_struct Tryd.underlying23 hv
  rw [cells23] at hsz
  obtain ⟨fuel, h⟩ := h
  have hcl : (Value.agg cs).cells.toList = cs.toList := rfl
  rw [hcl] at h
  obtain ⟨l⟩ := cs
  have hl : l.length = 5 := by simpa using hsz
  obtain ⟨xs, n, _, _, _, hxl, hf⟩ := DataW.trod_struct Tryd.underlying23 h
  match xs, hxl, l, hl with
  | [y0, y1, y2, y3, y4], _, [v0, v1, v2, v3, v4], _ =>
    have g0 := hf 0 _ rfl
    have g1 := hf 1 _ rfl
    have g2 := hf 2 _ rfl
    have g3 := hf 3 _ rfl
    have g4 := hf 4 _ rfl
    simp [cells2, cells9] at g0 g1 g2 g3 g4
    obtain ⟨n0, q0, _, _⟩ := DataW.trod_int Tryd.underlying2 g0
    obtain ⟨n1, q1, _, _⟩ := DataW.trod_int Tryd.underlying2 g1
    obtain ⟨n2, q2, _, _⟩ := DataW.trod_int Tryd.underlying2 g2
    obtain ⟨s3, q3, _, _⟩ := DataW.trod_string Tryd.underlying9 g3
    obtain ⟨s4, q4, _, _⟩ := DataW.trod_string Tryd.underlying9 g4
    simp at q0 q1 q2 q3 q4
    subst q0; subst q1; subst q2; subst q3; subst q4
    refine ⟨⟨n0, n1, n2, s3.toList, s4.toList⟩, ?_⟩
    unfold Ver.cells
    rw [S_of, S_of]

theorem door_met (os : Os) (args : Array Value) : laidMetH Tryd.prog Rows.fnCompareRow.laid ((World.doorLaid Tryd.prog 400 os).forCall (fun _ _ => 0) ⟨#[], args, []⟩).memory :=
  laidMetH_of_parts3 (fuel := 8) (laidMet_of_run' 8 (by kernel_rfl) (by kernel_rfl)) (by kernel_rfl) (by kernel_rfl)

set_option maxRecDepth 100000 in
theorem fnCompare_lifted (os : Os) (started : os.Started) (H : Type) (enc : TypeId × Value → H) :
    ReturnsInHanded {} Tryd.checked os 3 .any (fun w args => (Rows.fnCompareSpec.pre enc Tryd.prog Tryd.f3 [] false w args ∧ laidMetH Tryd.prog Rows.fnCompareRow.laid w) ∧ sizedMet enc Tryd.prog Tryd.f3 (OpenSpec.ofChange Rows.fnCompareSpec) false w args)
      (Rows.fnCompareSpec.post enc Tryd.prog Tryd.f3 false true false false) := by
  refine returnsInHanded_of_change_and (C := Tryd.checked) (X := fun w _ => laidMetH Tryd.prog Rows.fnCompareRow.laid w) (fun _ _ _ hh h => h.of_heap hh) own_knob started (by kernel_rfl) Tryd.func3
    (ChangeSpec.witness_shaped (enc := enc) (C := Tryd.checked) (os := os) (X := fun w _ => laidMetH Tryd.prog Rows.fnCompareRow.laid w) false (World.doorLaid Tryd.prog 400 os) #[.agg #[.int .i64 0, .int .i64 0, .int .i64 0, .string ⟨#[]⟩, .string ⟨#[]⟩], .agg #[.int .i64 0, .int .i64 0, .int .i64 0, .string ⟨#[]⟩, .string ⟨#[]⟩]] 8 rfl (World.shaped_of_RefB (by kernel_rfl) (by kernel_rfl)) (by kernel_rfl) (by kernel_rfl) (by kernel_rfl) (door_met os _)) ?_
  intro W base args ds gs before hval0 hW _ _ _ _
  have hval : ∀ (j : Nat) t v, Tryd.f3.params[j]? = some t → args[j]? = some v → Value.okWide Tryd.prog W .any base t v := hval0
  have hW' : DataW.Whole enc Tryd.prog Tryd.f3.params.toList Rows.fnCompareSpec.vars false W args.toList ds gs before := hW
  obtain ⟨p, q, hA, hV, rfl, hfz, hnd⟩ := hW
  replace hA : DataW.TrodAll enc Tryd.prog W 0 (fun _ => true) true Tryd.f3.params.toList args.toList ds p := hA
  rw [Tryd.params3] at hA hval
  obtain ⟨v0, v1, d0, d1, p0, p1, rfl, rfl, rfl, h0, h1⟩ := trodAll_two hA
  obtain ⟨rfl, rfl⟩ := trodVars_none hV
  obtain ⟨a, rfl⟩ := open_version (hval 0 23 v0 rfl rfl) h0
  obtain ⟨b, rfl⟩ := open_version (hval 1 23 v1 rfl rfl) h1
  refine (fnCompare_any a b W).mono fun e W' ⟨he, hb⟩ => ?_
  refine ⟨_, he, law_post (tb := 4) laid_out rfl ?_ hW' rfl (by kernel_rfl) Tryd.underlying4 hb⟩
  rw [Tryd.params3]
  intro t ht
  simp at ht
  rcases ht with rfl | rfl
  all_goals exact ⟨by kernel_rfl, of_decide_eq_true (by kernel_rfl)⟩

theorem fnCompare_row_holds : Rows.FnCompareSaid :=
  OpenClaim.holds_of_wide 3 Tryd.f3 rfl rfl rfl rfl rfl rfl rfl ⟨rfl, rfl, rfl, rfl, rfl⟩ rfl rfl rfl rfl rfl (by kernel_rfl) Tryd.func3 (by kernel_rfl)
    (of_decide_eq_true (by kernel_rfl)) (by unfold Func.isWrapper; rw [if_neg (of_decide_eq_false (by kernel_rfl))]; exact ⟨rfl, rfl⟩)
    (fun os started H enc _ => fnCompare_lifted os started H enc)

theorem fnCompare_holds : Rows.FnCompareCardSaid :=
  Claim7.holds_tied_plain_at .later [] [.data, .data, .data, .sentinel, .sentinel] true (true, "fbc21a5dc4c55e15094041056c2211a81511ced61528d4c0e7912638cf189483") true
    fnCompare_row_holds (fun _ h => by cases h) (by kernel_rfl) (fun _ h => by cases h) fnCompare_row_tie rfl ⟨rfl, rfl⟩ (by kernel_rfl) rfl
    (fun f fn hf hfn => by
      obtain rfl : f = 3 := Option.some.inj ((show Tryd.prog.funcNamed "opaparts/laws.FnCompare" = some 3 by kernel_rfl).symm.trans hf) |>.symm
      obtain rfl : fn = Tryd.f3 := (Option.some.inj (Tryd.func3.symm.trans hfn)).symm
      exact ⟨by kernel_rfl, fun j t ht => by
        rw [Tryd.params3] at ht
        have hm : t ∈ [23, 23] := by simpa using Array.mem_of_getElem? ht
        have hall : ([23, 23].all fun u => !Tryd.prog.wantsStandIn u) = true := by kernel_rfl
        exact (show Tryd.prog.wantsStandIn t = false by simpa using List.all_eq_true.1 hall t hm)⟩)
    (by kernel_rfl)
#print axioms fnCompare_holds
end Go.Proofs.YtaoeelhgfdknfaaDoor
