/- The law FnTrie returns true for every list of keys, every text, every number and either way of compacting, and leaves all memory that was there as it was: the row, and the tied card. The row is under the condition that the one listed variable of the program holds what its initialiser laid; the card ties it to the program's text. -/
import Derived.Test.YtjekaagjgamfkaaDoorT1
import Derived.Test.YtjekaagjgamfkaaDoorPb
import Derived.Carry
namespace Go.Proofs.YtjekaagjgamfkaaDoor
open Go.ChangeMaps (open_string)
open Go.ChangeShapes Go.WideShapes Go.ChangeAt Go.WideMaps Go.WideElems Go.RowKit Go.Deep
open T

theorem door_met3 (os : Os) (args : Array Value) : laidMetH Tryd.prog Rows.fnTrieRow.laid ((World.doorLaid Tryd.prog 400 os).forCall (fun _ _ => 0) ⟨#[], args, []⟩).memory :=
  laidMetH_of_parts3 (fuel := 8) (laidMet_of_run' 8 (by kernel_rfl) (by kernel_rfl)) (by kernel_rfl) (by kernel_rfl)

set_option maxRecDepth 100000 in
theorem fnTrie_lifted (os : Os) (started : os.Started) (H : Type) (enc : TypeId × Value → H) :
    ReturnsInHanded {} Tryd.checked os 3 .any (fun w args => (Rows.fnTrieSpec.pre enc Tryd.prog Tryd.f3 [] false w args ∧ laidMetH Tryd.prog Rows.fnTrieRow.laid w) ∧ sizedMet enc Tryd.prog Tryd.f3 (OpenSpec.ofChange Rows.fnTrieSpec) false w args)
      (Rows.fnTrieSpec.post enc Tryd.prog Tryd.f3 false true false false) := by
  refine returnsInHanded_of_change_and (C := Tryd.checked) (X := fun w _ => laidMetH Tryd.prog Rows.fnTrieRow.laid w) (fun _ _ _ hh h => h.of_heap hh) own_knob started (by kernel_rfl) Tryd.func3
    (ChangeSpec.witness_shaped (enc := enc) (C := Tryd.checked) (os := os) (X := fun w _ => laidMetH Tryd.prog Rows.fnTrieRow.laid w) false (World.doorLaid Tryd.prog 400 os) #[.slice none 0 0, .string ⟨#[]⟩, .int .i64 0, .bool false] 8 rfl (World.shaped_of_RefB (by kernel_rfl) (by kernel_rfl)) (by kernel_rfl) (by kernel_rfl) (by kernel_rfl) (door_met3 os _)) ?_
  intro W base args ds gs before hval0 hW _ _ hX _
  have hW' : DataW.Whole enc Tryd.prog Tryd.f3.params.toList Rows.fnTrieSpec.vars false W args.toList ds gs before := hW
  obtain ⟨p, q, hA, hV, rfl, hfz, hnd⟩ := hW
  replace hA : DataW.TrodAll enc Tryd.prog W 0 (fun _ => true) true Tryd.f3.params.toList args.toList ds p := hA
  rw [Tryd.params3] at hA
  obtain ⟨v0, v1, v2, v3, d0, d1, d2, d3, p0, p1, p2, p3, rfl, rfl, rfl, h0, h1, h2, h3⟩ := trodAll_four hA
  obtain ⟨rfl, rfl⟩ := trodVars_none hV
  have hval : ∀ (j : Nat) t v, Tryd.f3.params[j]? = some t → #[v0, v1, v2, v3][j]? = some v → Value.okWide Tryd.prog W .any base t v := hval0
  rw [Tryd.params3] at hval
  obtain ⟨A, n, c, ks, rfl, hks, hnil, hnm⟩ := open_texts (hval 0 22 v0 rfl rfl) h0
  obtain ⟨s, rfl, rfl, rfl, w1⟩ := open_string Tryd.underlying9 (hval 1 9 v1 rfl rfl) h1
  obtain ⟨z, rfl, rfl, rfl, _⟩ := open_int Tryd.underlying3 (hval 2 3 v2 rfl rfl) h2
  obtain ⟨br, rfl, rfl, rfl⟩ := open_bool Tryd.underlying4 (hval 3 4 v3 rfl rfl) h3
  have hsl : s.toList.length ≤ maxLen := by
    have h1 := S_size s.toList
    rw [S_of] at h1
    rw [← h1]
    exact w1
  have hc := fnTrie_any A n c ks s.toList z br W hks hnil hnm hsl (vars_ok hX)
  rw [S_of] at hc
  refine hc.mono fun e W' ⟨he, hb⟩ => ?_
  refine ⟨_, he, law_post (tb := 4) laid_out rfl ?_ hW' rfl (by kernel_rfl) Tryd.underlying4 hb⟩
  rw [Tryd.params3]
  intro t ht
  simp at ht
  rcases ht with rfl | rfl | rfl | rfl
  · exact ⟨by kernel_rfl, of_decide_eq_true (by kernel_rfl)⟩
  · exact ⟨by kernel_rfl, of_decide_eq_true (by kernel_rfl)⟩
  · exact ⟨by kernel_rfl, of_decide_eq_true (by kernel_rfl)⟩
  · exact ⟨by kernel_rfl, of_decide_eq_true (by kernel_rfl)⟩

theorem fnTrie_row_holds : Rows.FnTrieSaid :=
  OpenClaim.holds_of_wide 3 Tryd.f3 rfl rfl rfl rfl rfl rfl rfl ⟨rfl, rfl, rfl, rfl, rfl⟩ rfl rfl rfl rfl rfl (by kernel_rfl) Tryd.func3 (by kernel_rfl)
    (of_decide_eq_true (by kernel_rfl)) (by unfold Func.isWrapper; rw [if_neg (of_decide_eq_false (by kernel_rfl))]; exact ⟨rfl, rfl⟩)
    (fun os started H enc _ => fnTrie_lifted os started H enc)

theorem fnTrie_holds : Rows.FnTrieCardSaid :=
  Claim7.holds_tied_plain_at .later [] [.sentinel] true (true, "44b1ddeb54a5872ef095a91359eaee5313d0e52cea0b933e2d2c5d40062b5258") false
    fnTrie_row_holds (fun _ h => by cases h) (by kernel_rfl) (fun _ h => by cases h) fnTrie_row_tie rfl ⟨rfl, rfl⟩ (by kernel_rfl) rfl
    (fun f fn hf hfn => by
      obtain rfl : f = 3 := Option.some.inj ((show Tryd.prog.funcNamed "opaparts/laws.FnTrie" = some 3 by kernel_rfl).symm.trans hf) |>.symm
      obtain rfl : fn = Tryd.f3 := (Option.some.inj (Tryd.func3.symm.trans hfn)).symm
      exact ⟨by kernel_rfl, fun j t ht => by
        rw [Tryd.params3] at ht
        have hm : t ∈ [22, 9, 3, 4] := by simpa using Array.mem_of_getElem? ht
        have hall : ([22, 9, 3, 4].all fun u => !Tryd.prog.wantsStandIn u) = true := by kernel_rfl
        exact (show Tryd.prog.wantsStandIn t = false by simpa using List.all_eq_true.1 hall t hm)⟩)
    (by kernel_rfl)
#print axioms fnTrie_holds
end Go.Proofs.YtjekaagjgamfkaaDoor
