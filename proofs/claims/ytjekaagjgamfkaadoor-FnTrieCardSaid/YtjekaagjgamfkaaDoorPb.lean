/- The law FnBackwards returns true for every list of keys and every text, and leaves all memory that was there as it was: the row, and the tied card. The row is under the condition that the one listed variable of the program holds what its initialiser laid; the card ties it to the program's text. -/
import Derived.Test.YtjekaagjgamfkaaDoorLaw
import Derived.Test.YtjekaagjgamfkaaDoorTie
import Derived.Test.YtjekaagjgamfkaaDoorCards
import Derived.Test.YtjekaagjgamfkaaDoorB1
import Derived.Deep.Strs
import Derived.LaidMore
import Derived.MakeChecks
import Derived.LaidSub
import Derived.OpenShut
import Derived.Stop.Joined
import Derived.SevenTiedAt
namespace Go.Proofs.YtjekaagjgamfkaaDoor
open Go.ChangeMaps (open_string)
open Go.ChangeShapes Go.WideShapes Go.ChangeAt Go.WideMaps Go.WideElems Go.RowKit Go.Deep
open T

theorem gStop : Tryd.prog.globalNamed "opaparts/impl.errStop" = some 0 := by kernel_rfl
theorem tStop : (Tryd.prog.globals[0]?).map (·.type) = some 49 := by kernel_rfl
theorem cells9 : Tryd.prog.cellsOf 9 = 1 := by kernel_rfl
theorem one_laid {W : World} {name nm : String} {g : Nat} {d : DataW Unit} (hg : Tryd.prog.globalNamed name = some g) (ht : (Tryd.prog.globals[g]?).map (·.type) = some 49) (h : laidMet Tryd.prog [(name, .iface nm d)] W) : ∃ t p, W.cell? ⟨g, 0, none⟩ = some (.iface t p) := by
  obtain ⟨ps, ⟨g0, t0, cs0, f0, p0, q0, hg0, ht0, hv0, hd0, _, _⟩, _, _⟩ := h
  obtain rfl := Option.some.inj (hg.symm.trans hg0)
  obtain rfl := Option.some.inj (ht.symm.trans ht0)
  obtain ⟨f', u, v, hcs, _, _⟩ := iface_of_trod Tryd.underlying49 hd0
  have := World.var?_cell hg0 hv0 0
  rw [Array.eq_one_of_toList hcs] at this
  exact ⟨u, v, by simpa using this⟩
theorem vars_ok {W : World} (h : laidMetH Tryd.prog [("opaparts/impl.errStop", Rows.laid_opaparts_impl_errStop)] W) : ∃ t p, W.cell? ⟨0, 0, none⟩ = some (.iface t p) := by
  have h1 := h
  rw [MakeChecks.laidMetH_plain _ _ _ (by kernel_rfl)] at h1
  exact one_laid gStop tStop h1

/-- A list of texts, opened. -/
theorem open_texts {H : Type} {enc : TypeId × Value → H} {w : World} {base : Nat} {v : Value} {d : DataW H} {ps : List MemPlace} (hv : Value.okWide Tryd.prog w .any base 22 v) (h : DataW.Trod enc Tryd.prog w 0 (fun _ => true) true 22 v d ps) :
    ∃ (A : Option Addr) (n c : Nat) (ks : List Bs), v = .slice A n c ∧ StrsIn w A n ks ∧ (A = none → c = 0) ∧ n ≤ maxLen := by
  obtain ⟨A0, len0, cap0, rfl⟩ := okWide_slice Tryd.underlying22 hv
  obtain ⟨fuel, hf⟩ := h
  rcases open_strs Tryd.underlying22 Tryd.underlying9 cells9 hf with ⟨hcs, _⟩ | ⟨a, len, cap, m, Sx, hcs, _, hl, hm, hmm, _, hx⟩
  · have hcs2 : [Value.slice A0 len0 cap0] = [Value.slice none 0 0] := hcs
    injection hcs2 with h1 _
    injection h1 with h1 h2 h3
    subst h1 h2 h3
    exact ⟨none, 0, 0, [], rfl, Reads.none_, fun _ => rfl, Nat.zero_le _⟩
  · have hcs2 : [Value.slice A0 len0 cap0] = [Value.slice (some a) len cap] := hcs
    injection hcs2 with h1 _
    injection h1 with h1 h2 h3
    subst h1 h2 h3
    have hlm : len0 ≤ m := by rw [hmm]; split <;> omega
    refine ⟨some a, len0, cap0, (List.range len0).map (fun i => (Sx i).toList), rfl, ⟨by simp [strs], fun hn => ?_⟩, fun h => (by cases h), Nat.le_trans hl hm⟩
    have hlt := cell_lt (hx 0 (by omega)).1
    rw [block_of_add] at hlt
    refine ⟨a, rfl, trivial, hlt, fun j u hu => ?_⟩
    unfold strs at hu
    have hj : j < len0 := by
      have := (List.getElem?_eq_some_iff.1 hu).1
      simpa using this
    have hu2 : u = .string (Sx j) := by
      simp [hj] at hu
      rw [← hu, S_of]
    rw [hu2]
    exact (hx j (by omega)).1

theorem door_met4 (os : Os) (args : Array Value) : laidMetH Tryd.prog Rows.fnBackwardsRow.laid ((World.doorLaid Tryd.prog 400 os).forCall (fun _ _ => 0) ⟨#[], args, []⟩).memory :=
  laidMetH_of_parts3 (fuel := 8) (laidMet_of_run' 8 (by kernel_rfl) (by kernel_rfl)) (by kernel_rfl) (by kernel_rfl)

set_option maxRecDepth 100000 in
theorem fnBackwards_lifted (os : Os) (started : os.Started) (H : Type) (enc : TypeId × Value → H) :
    ReturnsInHanded {} Tryd.checked os 4 .any (fun w args => (Rows.fnBackwardsSpec.pre enc Tryd.prog Tryd.f4 [] false w args ∧ laidMetH Tryd.prog Rows.fnBackwardsRow.laid w) ∧ sizedMet enc Tryd.prog Tryd.f4 (OpenSpec.ofChange Rows.fnBackwardsSpec) false w args)
      (Rows.fnBackwardsSpec.post enc Tryd.prog Tryd.f4 false true false false) := by
  refine returnsInHanded_of_change_and (C := Tryd.checked) (X := fun w _ => laidMetH Tryd.prog Rows.fnBackwardsRow.laid w) (fun _ _ _ hh h => h.of_heap hh) own_knob started (by kernel_rfl) Tryd.func4
    (ChangeSpec.witness_shaped (enc := enc) (C := Tryd.checked) (os := os) (X := fun w _ => laidMetH Tryd.prog Rows.fnBackwardsRow.laid w) false (World.doorLaid Tryd.prog 400 os) #[.slice none 0 0, .string ⟨#[]⟩] 8 rfl (World.shaped_of_RefB (by kernel_rfl) (by kernel_rfl)) (by kernel_rfl) (by kernel_rfl) (by kernel_rfl) (door_met4 os _)) ?_
  intro W base args ds gs before hval0 hW _ _ hX _
  have hW' : DataW.Whole enc Tryd.prog Tryd.f4.params.toList Rows.fnBackwardsSpec.vars false W args.toList ds gs before := hW
  obtain ⟨p, q, hA, hV, rfl, hfz, hnd⟩ := hW
  replace hA : DataW.TrodAll enc Tryd.prog W 0 (fun _ => true) true Tryd.f4.params.toList args.toList ds p := hA
  rw [Tryd.params4] at hA
  obtain ⟨v0, v1, d0, d1, p0, p1, rfl, rfl, rfl, h0, h1⟩ := trodAll_two hA
  obtain ⟨rfl, rfl⟩ := trodVars_none hV
  have hval : ∀ (j : Nat) t v, Tryd.f4.params[j]? = some t → #[v0, v1][j]? = some v → Value.okWide Tryd.prog W .any base t v := hval0
  rw [Tryd.params4] at hval
  obtain ⟨A, n, c, ks, rfl, hks, hnil, hnm⟩ := open_texts (hval 0 22 v0 rfl rfl) h0
  obtain ⟨s, rfl, rfl, rfl, w1⟩ := open_string Tryd.underlying9 (hval 1 9 v1 rfl rfl) h1
  have hsl : s.toList.length ≤ maxLen := by
    have h1 := S_size s.toList
    rw [S_of] at h1
    rw [← h1]
    exact w1
  have hc := fnBackwards_any A n c ks s.toList W hks hnil hnm hsl (vars_ok hX)
  rw [S_of] at hc
  refine hc.mono fun e W' ⟨he, hb⟩ => ?_
  refine ⟨_, he, law_post (tb := 4) laid_out rfl ?_ hW' rfl (by kernel_rfl) Tryd.underlying4 hb⟩
  rw [Tryd.params4]
  intro t ht
  simp at ht
  rcases ht with rfl | rfl
  · exact ⟨by kernel_rfl, of_decide_eq_true (by kernel_rfl)⟩
  · exact ⟨by kernel_rfl, of_decide_eq_true (by kernel_rfl)⟩

theorem fnBackwards_row_holds : Rows.FnBackwardsSaid :=
  OpenClaim.holds_of_wide 4 Tryd.f4 rfl rfl rfl rfl rfl rfl rfl ⟨rfl, rfl, rfl, rfl, rfl⟩ rfl rfl rfl rfl rfl (by kernel_rfl) Tryd.func4 (by kernel_rfl)
    (of_decide_eq_true (by kernel_rfl)) (by unfold Func.isWrapper; rw [if_neg (of_decide_eq_false (by kernel_rfl))]; exact ⟨rfl, rfl⟩)
    (fun os started H enc _ => fnBackwards_lifted os started H enc)

theorem fnBackwards_holds : Rows.FnBackwardsCardSaid :=
  Claim7.holds_tied_plain_at .later [] [.sentinel] true (true, "44b1ddeb54a5872ef095a91359eaee5313d0e52cea0b933e2d2c5d40062b5258") false
    fnBackwards_row_holds (fun _ h => by cases h) (by kernel_rfl) (fun _ h => by cases h) fnBackwards_row_tie rfl ⟨rfl, rfl⟩ (by kernel_rfl) rfl
    (fun f fn hf hfn => by
      obtain rfl : f = 4 := Option.some.inj ((show Tryd.prog.funcNamed "opaparts/laws.FnBackwards" = some 4 by kernel_rfl).symm.trans hf) |>.symm
      obtain rfl : fn = Tryd.f4 := (Option.some.inj (Tryd.func4.symm.trans hfn)).symm
      exact ⟨by kernel_rfl, fun j t ht => by
        rw [Tryd.params4] at ht
        have hm : t ∈ [22, 9] := by simpa using Array.mem_of_getElem? ht
        have hall : ([22, 9].all fun u => !Tryd.prog.wantsStandIn u) = true := by kernel_rfl
        exact (show Tryd.prog.wantsStandIn t = false by simpa using List.all_eq_true.1 hall t hm)⟩)
    (by kernel_rfl)
#print axioms fnBackwards_holds
end Go.Proofs.YtjekaagjgamfkaaDoor
