/- The walks of semver's zzIdentifiers, zzSplit, validPreRelease, parseNumeric. No condition but sizes; parseNumeric where the library's two error variables hold errors. -/
import Derived.Test.YtaoeelhgfdknfaaDoorW10
import Derived.Test.YtaoeelhgfdknfaaDoorSh2
namespace Go.Proofs.YtaoeelhgfdknfaaDoor
open Go.RowKit

attribute [local go_sem] S_size S_toList E_toList S_extract

def okPart (x : Bs) : Bool := x.all isIdc && !x.isEmpty
theorem addH_char {x rest : Bs} {c : UInt8} (hn : c ≠ 46) : addH x (dots (c :: rest)) = addH (x ++ [c]) (dots rest) := by
  obtain ⟨h, t, h1, h2⟩ := dots_cons c rest hn
  rw [h2, h1]
  simp [addH]
theorem addH_point (x rest : Bs) : addH x (dots (46 :: rest)) = x :: dots rest := by rw [dots_point]; simp [addH]
theorem addH_mem (x : Bs) (L : List Bs) : ∃ h, x ++ h ∈ addH x L := by
  cases L with
  | nil => exact ⟨[], by simp [addH]⟩
  | cons a t => exact ⟨a, by simp [addH]⟩
theorem idents_no {l x : Bs} {P : List Bs} (h : dots l = P) (hx : x ∈ P) (hb : okPart x = false) : identsB l = false := by
  refine not_idents (x := x) (by rw [h]; exact hx) hb

set_option maxHeartbeats 2000000 in
set_option maxRecDepth 100000 in
theorem zzidents_any (l : Bs) (w : World) (hl : l.length ≤ 8589934592) : Calls Tryd.prog 35 #[.string (S l)] w fun e w' => e = .returned (.bool (identsB l)) ∧ w' = w := by
  go_enter Tryd.func35, Tryd.ntmps35
  go_wp2
  go_loopw [3, 4] (fun n i wr => ∃ (j k : Nat) (P : List Bs) (x : Bs), j ≤ l.length ∧ k ≤ j ∧ i = .int .i64 j ∧ n = .int .i64 k ∧ wr = w ∧ Hid (x.length = k ∧ P.all okPart = true ∧ x.all isIdc = true ∧ dots l = P ++ addH x (dots (l.drop j)))) (fun _ i _ => l.length - (intOf i).toNat)
  case atStart => exact ⟨0, 0, [], [], Nat.zero_le _, Nat.le_refl _, rfl, rfl, rfl, rfl, rfl, rfl, by simp [addH_nil (dots_ne l)]⟩
  case round =>
    obtain ⟨j, k, P, x, hj, hk, rfl, rfl, rfl, HI⟩ := hrel
    by_cases hlt : j < l.length
    · obtain ⟨c, hc⟩ : ∃ c, l[j]? = some c := ⟨_, List.getElem?_eq_getElem hlt⟩
      have hix := index_S hc
      have hdr := drop_at hc
      have HDR := hide hdr
      clear hdr hc
      cases hd : isIdc c with
      | true =>
        have hn46 : c ≠ 46 := by rintro rfl; revert hd; decide
        have hnew : ∃ (P : List Bs) (y : Bs), y.length = k + 1 ∧ P.all okPart = true ∧ y.all isIdc = true ∧ dots l = P ++ addH y (dots (l.drop (j + 1))) := by
          obtain ⟨i1, i2, i3, i4⟩ := HI.out
          refine ⟨P, x ++ [c], by simp [i1], i2, by rw [List.all_append, i3]; simp [hd], ?_⟩
          rw [i4, HDR.out, addH_char hn46]
        have HNEW := hide hnew
        have hyes := isIdc_yes hd
        clear hd hn46 hnew
        rcases hyes with ⟨h1, h2⟩ | ⟨h1, h2⟩ | ⟨h1, h2⟩ | h1
        rotate_left 3
        · have h2 : (c.toNat : Int) = 45 := by omega
          rw [h2] at hix
          go_wp2
          go_roundw
          case measure => simp [intOf]; omega
          case rel =>
            obtain ⟨P', y, hn⟩ := HNEW.out
            exact ⟨j + 1, k + 1, P', y, by omega, by omega, by go_num, by go_num, trivial, hn⟩
        all_goals
          go_wp2
          all_goals
            go_roundw
            case measure => simp [intOf]; omega
            case rel =>
              obtain ⟨P', y, hn⟩ := HNEW.out
              exact ⟨j + 1, k + 1, P', y, by omega, by omega, by go_num, by go_num, trivial, hn⟩
      | false =>
        by_cases h46 : c = 46
        · subst h46
          have h2 : ((46 : UInt8).toNat : Int) = 46 := rfl
          rw [h2] at hix
          by_cases hk0 : 0 < k
          · have hnew : (P ++ [x]).all okPart = true ∧ dots l = (P ++ [x]) ++ addH [] (dots (l.drop (j + 1))) := by
              obtain ⟨i1, i2, i3, i4⟩ := HI.out
              refine ⟨?_, ?_⟩
              · rw [List.all_append, i2]
                have : x.isEmpty = false := by cases x with | nil => simp at i1; omega | cons _ _ => rfl
                simp [okPart, i3, this]
              · rw [i4, HDR.out, addH_point, addH_nil (dots_ne _)]; simp
            have HNEW := hide hnew
            clear hnew hd h2
            go_wp2
            go_roundw
            case measure => simp [intOf]; omega
            case rel => exact ⟨j + 1, 0, P ++ [x], [], by omega, Nat.zero_le _, by go_num, rfl, trivial, rfl, HNEW.out.1, rfl, HNEW.out.2⟩
          · have hbad : identsB l = false := by
              obtain ⟨i1, i2, i3, i4⟩ := HI.out
              rw [HDR.out, addH_point] at i4
              have hx0 : x = [] := List.eq_nil_of_length_eq_zero (by omega)
              exact idents_no i4 (x := x) (by simp) (by rw [hx0]; rfl)
            have HBD := hide hbad
            clear hbad hd h2
            go_wp2
            go_ret
            exact ⟨by rw [HBD.out]; rfl, rfl⟩
        · have hbad : identsB l = false := by
            obtain ⟨i1, i2, i3, i4⟩ := HI.out
            rw [HDR.out, addH_char h46] at i4
            obtain ⟨h, hm⟩ := addH_mem (x ++ [c]) (dots (l.drop (j + 1)))
            refine idents_no i4 (x := x ++ [c] ++ h) (by simp only [List.mem_append]; exact Or.inr hm) ?_
            unfold okPart
            have : (x ++ [c] ++ h).all isIdc = false := by
              rw [List.all_eq_false]
              exact ⟨c, by simp, by simp [hd]⟩
            rw [this]; rfl
          have HBD := hide hbad
          have hno := isIdc_no hd
          have hn46 : ¬ (c.toNat : Int) = 46 := fun e => h46 (UInt8.toNat_inj.1 (by have : (46 : UInt8).toNat = 46 := rfl; omega))
          clear hbad hd h46
          rcases hno with h1 | ⟨h1, h2⟩ | ⟨h1, h2⟩ | ⟨h1, h2⟩ | h1
          all_goals
            have hne : ¬ (c.toNat : Int) = 45 := by omega
            go_wp2
            all_goals
              go_ret
              exact ⟨by rw [HBD.out]; rfl, rfl⟩
    · have hjl : j = l.length := by omega
      have hf : identsB l = decide (0 < k) := by
        obtain ⟨i1, i2, i3, i4⟩ := HI.out
        rw [hjl, List.drop_length] at i4
        have e : dots l = P ++ [x] := by rw [i4]; simp [addH, dots]
        unfold identsB
        rw [e, List.all_append]
        have : P.all (fun x => x.all isIdc && !x.isEmpty) = true := i2
        rw [this]
        cases x with
        | nil => simp at i1; simp; omega
        | cons a y => simp only [List.length_cons] at i1; simp only [List.all_cons, List.all_nil] at i3 ⊢; rw [i3]; simp; omega
      have HF := hide hf
      clear hf hjl
      by_cases hk0 : 0 < k
      · have hf2 : identsB l = true := by rw [HF.out, decide_eq_true hk0]
        have HF2 := hide hf2
        clear hf2
        go_wp2
        go_ret
        exact ⟨by rw [HF2.out]; rfl, rfl⟩
      · have hf2 : identsB l = false := by rw [HF.out, decide_eq_false hk0]
        have HF2 := hide hf2
        have hk1 : k = 0 := by omega
        subst hk1
        clear hf2
        go_wp2
        go_ret
        exact ⟨by rw [HF2.out]; rfl, rfl⟩
end Go.Proofs.YtaoeelhgfdknfaaDoor
