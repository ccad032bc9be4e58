/- The law FnParse returns true for every text, and leaves all memory that was there as it was: the row, and the tied card. The row is under the condition that the five listed variables of Go's library hold what their initialisers lay; the card ties them to the program's text. -/
import Derived.Test.YtaoeelhgfdknfaaDoorLaw
import Derived.Test.YtaoeelhgfdknfaaDoorTie
import Derived.Test.YtaoeelhgfdknfaaDoorCards
import Derived.Test.YtaoeelhgfdknfaaDoorW20
import Derived.LaidMore
import Derived.MakeChecks
import Derived.LaidSub
import Derived.OpenShut
import Derived.Stop.Joined
import Derived.SevenTiedAt
namespace Go.Proofs.YtaoeelhgfdknfaaDoor
open Go.ChangeMaps (open_string)
open Go.ChangeShapes Go.WideShapes Go.ChangeAt Go.WideMaps Go.WideElems Go.RowKit

theorem gSyn : Tryd.prog.globalNamed "strconv.ErrSyntax" = some 0 := by kernel_rfl
theorem gRan : Tryd.prog.globalNamed "strconv.ErrRange" = some 1 := by kernel_rfl
theorem tSyn : (Tryd.prog.globals[0]?).map (·.type) = some 50 := by kernel_rfl
theorem tRan : (Tryd.prog.globals[1]?).map (·.type) = some 50 := by kernel_rfl
theorem one_laid {W : World} {name nm : String} {g : Nat} {d : DataW Unit} (hg : Tryd.prog.globalNamed name = some g) (ht : (Tryd.prog.globals[g]?).map (·.type) = some 50) (h : laidMet Tryd.prog [(name, .iface nm d)] W) : ∃ t p, W.cell? ⟨g, 0, none⟩ = some (.iface t p) := by
  obtain ⟨ps, ⟨g0, t0, cs0, f0, p0, q0, hg0, ht0, hv0, hd0, _, _⟩, _, _⟩ := h
  obtain rfl := Option.some.inj (hg.symm.trans hg0)
  obtain rfl := Option.some.inj (ht.symm.trans ht0)
  obtain ⟨f', u, v, hcs, _, _⟩ := iface_of_trod Tryd.underlying50 hd0
  have := World.var?_cell hg0 hv0 0
  rw [Array.eq_one_of_toList hcs] at this
  exact ⟨u, v, by simpa using this⟩
theorem vars_ok {W : World} (h : laidMetH Tryd.prog Rows.fnParseRow.laid W) : VarsOk W := by
  have h1 := h.filter (fun x => x.1 == "strconv.ErrSyntax")
  have h2 := h.filter (fun x => x.1 == "strconv.ErrRange")
  rw [MakeChecks.laidMetH_plain _ _ _ (by kernel_rfl)] at h1 h2
  have e1 : (Rows.fnParseRow.laid.filter (fun x => x.1 == "strconv.ErrSyntax")) = [("strconv.ErrSyntax", Rows.laid_strconv_ErrSyntax)] := by kernel_rfl
  have e2 : (Rows.fnParseRow.laid.filter (fun x => x.1 == "strconv.ErrRange")) = [("strconv.ErrRange", Rows.laid_strconv_ErrRange)] := by kernel_rfl
  rw [e1] at h1
  rw [e2] at h2
  exact ⟨one_laid gSyn tSyn h1, one_laid gRan tRan h2⟩

theorem door_met4 (os : Os) (args : Array Value) : laidMetH Tryd.prog Rows.fnParseRow.laid ((World.doorLaid Tryd.prog 400 os).forCall (fun _ _ => 0) ⟨#[], args, []⟩).memory :=
  laidMetH_of_parts3 (fuel := 8) (laidMet_of_run' 8 (by kernel_rfl) (by kernel_rfl)) (by kernel_rfl) (by kernel_rfl)

set_option maxRecDepth 100000 in
theorem fnParse_lifted (os : Os) (started : os.Started) (H : Type) (enc : TypeId × Value → H) :
    ReturnsInHanded {} Tryd.checked os 4 .any (fun w args => (Rows.fnParseSpec.pre enc Tryd.prog Tryd.f4 [] false w args ∧ laidMetH Tryd.prog Rows.fnParseRow.laid w) ∧ sizedMet enc Tryd.prog Tryd.f4 (OpenSpec.ofChange Rows.fnParseSpec) false w args)
      (Rows.fnParseSpec.post enc Tryd.prog Tryd.f4 false true false false) := by
  refine returnsInHanded_of_change_and (C := Tryd.checked) (X := fun w _ => laidMetH Tryd.prog Rows.fnParseRow.laid w) (fun _ _ _ hh h => h.of_heap hh) own_knob started (by kernel_rfl) Tryd.func4
    (ChangeSpec.witness_shaped (enc := enc) (C := Tryd.checked) (os := os) (X := fun w _ => laidMetH Tryd.prog Rows.fnParseRow.laid w) false (World.doorLaid Tryd.prog 400 os) #[.string ⟨#[]⟩] 8 rfl (World.shaped_of_RefB (by kernel_rfl) (by kernel_rfl)) (by kernel_rfl) (by kernel_rfl) (by kernel_rfl) (door_met4 os _)) ?_
  intro W base args ds gs before hval0 hW _ _ hX _
  have hW' : DataW.Whole enc Tryd.prog Tryd.f4.params.toList Rows.fnParseSpec.vars false W args.toList ds gs before := hW
  obtain ⟨p, q, hA, hV, rfl, hfz, hnd⟩ := hW
  replace hA : DataW.TrodAll enc Tryd.prog W 0 (fun _ => true) true Tryd.f4.params.toList args.toList ds p := hA
  rw [Tryd.params4] at hA
  obtain ⟨v0, d0, rfl, rfl, h0⟩ := trodAll_one hA
  obtain ⟨rfl, rfl⟩ := trodVars_none hV
  have hval : ∀ (j : Nat) t v, Tryd.f4.params[j]? = some t → #[v0][j]? = some v → Value.okWide Tryd.prog W .any base t v := hval0
  rw [Tryd.params4] at hval
  obtain ⟨s, rfl, rfl, rfl, w0⟩ := open_string Tryd.underlying9 (hval 0 9 v0 rfl rfl) h0
  have hc := fnParse_any s.toList W (vars_ok hX)
  rw [S_of] at hc
  refine hc.mono fun e W' ⟨he, hb⟩ => ?_
  refine ⟨_, he, law_post (tb := 4) laid_out rfl ?_ hW' rfl (by kernel_rfl) Tryd.underlying4 hb⟩
  rw [Tryd.params4]
  intro t ht
  simp at ht
  subst ht
  exact ⟨by kernel_rfl, of_decide_eq_true (by kernel_rfl)⟩

theorem fnParse_row_holds : Rows.FnParseSaid :=
  OpenClaim.holds_of_wide 4 Tryd.f4 rfl rfl rfl rfl rfl rfl rfl ⟨rfl, rfl, rfl, rfl, rfl⟩ rfl rfl rfl rfl rfl (by kernel_rfl) Tryd.func4 (by kernel_rfl)
    (of_decide_eq_true (by kernel_rfl)) (by unfold Func.isWrapper; rw [if_neg (of_decide_eq_false (by kernel_rfl))]; exact ⟨rfl, rfl⟩)
    (fun os started H enc _ => fnParse_lifted os started H enc)

theorem fnParse_holds : Rows.FnParseCardSaid :=
  Claim7.holds_tied_plain_at .later [] [.data, .data, .data, .sentinel, .sentinel] true (true, "fbc21a5dc4c55e15094041056c2211a81511ced61528d4c0e7912638cf189483") true
    fnParse_row_holds (fun _ h => by cases h) (by kernel_rfl) (fun _ h => by cases h) fnParse_row_tie rfl ⟨rfl, rfl⟩ (by kernel_rfl) rfl
    (fun f fn hf hfn => by
      obtain rfl : f = 4 := Option.some.inj ((show Tryd.prog.funcNamed "opaparts/laws.FnParse" = some 4 by kernel_rfl).symm.trans hf) |>.symm
      obtain rfl : fn = Tryd.f4 := (Option.some.inj (Tryd.func4.symm.trans hfn)).symm
      exact ⟨by kernel_rfl, fun j t ht => by
        rw [Tryd.params4] at ht
        have hm : t ∈ [9] := by simpa using Array.mem_of_getElem? ht
        have hall : ([9].all fun u => !Tryd.prog.wantsStandIn u) = true := by kernel_rfl
        exact (show Tryd.prog.wantsStandIn t = false by simpa using List.all_eq_true.1 hall t hm)⟩)
    (by kernel_rfl)
#print axioms fnParse_holds
end Go.Proofs.YtaoeelhgfdknfaaDoor
