/- The walk of partitionEqual. Under sizes alone. -/
import Derived.Test.YtaihafoopoaahaaSo4
import Derived.Sort.LotC
namespace Go.Proofs.Ytaihafoopoaahaa
open Go.RowKit

section
variable {sb blk B sz : Nat} {lt : Nat → Nat → Bool} {R : World → Array Nat → Prop}
set_option linter.unusedSimpArgs false in
set_option linter.unusedVariables false in
set_option maxHeartbeats 4000000 in
set_option maxRecDepth 100000 in
theorem partitionEqual_any (h : SortEnv sb blk B sz lt R) (W : World) (d : Array Nat) (hR : R W d) (a b pivot : Nat) (hab : a < b) (hb : b ≤ sz) (hp : pivot < sz) :
    Calls Try.prog 40 #[.iface 39 (rcv sb), .int .i64 a, .int .i64 b, .int .i64 pivot] W fun e w' => e = .returned (.int .i64 (Sort.partitionEqual lt d a b pivot).1) ∧ At blk R W w' (Sort.partitionEqual lt d a b pivot).2 := by
  have mL := finds_Less sb
  have mS := finds_Swap sb
  have eL := enters_Less
  have eS := enters_Swap
  have HE := hide h
  have HR := hide hR
  have hsm := h.small
  clear h hR
  go_enter Try.func40, Try.ntmps40
  go_wp2_with fail
  refine (HE.out.swapI (Chg.refl _ W) HR.out a pivot _ _ rfl rfl (by omega) hp).mono ?_
  rintro _ w1 ⟨rfl, h1⟩
  have HA1 : Hid (At blk R W w1 (Sort.swp d a pivot)) := (h1 : At blk R W w1 (Sort.swp d a pivot))
  clear h1
  go_wp2
  go_loopw [9, 10] (fun s9 s10 wr => ∃ i j : Nat, s9 = .int .i64 i ∧ s10 = .int .i64 j ∧ a + 1 ≤ i ∧ i ≤ j + 1 ∧ j < b ∧ Hid (∃ dd, At blk R W wr dd ∧ Sort.partEqLoop lt a i j dd = Sort.partitionEqual lt d a b pivot)) (fun s9 s10 _ => b - (intOf s9).toNat)
  case atStart => exact ⟨a + 1, b - 1, by go_num, by go_num, by omega, by omega, by omega, (⟨_, HA1.out, rfl⟩ : ∃ dd, At blk R W w1 dd ∧ Sort.partEqLoop lt a (a + 1) (b - 1) dd = Sort.partitionEqual lt d a b pivot)⟩
  case round =>
    obtain ⟨i, j, rfl, rfl, hi, hij0, hjb, HI⟩ := hrel
    obtain ⟨dd, hat, heq⟩ := HI.out
    have HAT := hide hat
    have HEQ := hide heq
    clear hat heq HI HA1
    go_wp2
    go_loopw [9] (fun su wx => ∃ i2 : Nat, su = .int .i64 i2 ∧ i ≤ i2 ∧ i2 ≤ j + 1 ∧ Hid (At blk R W wx dd ∧ Sort.scanUp (fun x => !lt dd[a]! x) dd (j) i2 = Sort.scanUp (fun x => !lt dd[a]! x) dd (j) (i))) (fun su _ => j + 1 - (intOf su).toNat)
    case atStart => exact ⟨i, by first | rfl | go_num, Nat.le_refl _, by omega, (⟨HAT.out, rfl⟩ : At blk R W _ dd ∧ Sort.scanUp (fun x => !lt dd[a]! x) dd (j) (i) = Sort.scanUp (fun x => !lt dd[a]! x) dd (j) (i))⟩
    case round =>
      obtain ⟨i2, rfl, hi1, hi2, HU⟩ := hrel
      clear HAT
      by_cases hij : i2 ≤ j
      · cases hl : lt dd[a]! dd[i2]! with
        | false =>
          have HQ : Hid (Sort.scanUp (fun x => !lt dd[a]! x) dd (j) (i2 + 1) = Sort.scanUp (fun x => !lt dd[a]! x) dd (j) (i)) := by
            have h1 := HU.out.2
            rw [Sort.scanUp, if_pos (by simp [hl]; omega)] at h1
            exact h1
          go_wp2_with fail
          refine (HE.out.lessI HU.out.1.1 HU.out.1.2 a i2 _ _ rfl rfl (by omega) (by omega) false hl).mono ?_
          rintro _ w5 ⟨rfl, h5⟩
          have HF : Hid (At blk R W w5 dd ∧ Sort.scanUp (fun x => !lt dd[a]! x) dd (j) (i2 + 1) = Sort.scanUp (fun x => !lt dd[a]! x) dd (j) (i)) := (⟨h5, HQ.out⟩ : At blk R W w5 dd ∧ Sort.scanUp (fun x => !lt dd[a]! x) dd (j) (i2 + 1) = Sort.scanUp (fun x => !lt dd[a]! x) dd (j) (i))
          clear h5
          go_wp2
          exact ⟨⟨i2 + 1, by go_num, by omega, by omega, HF⟩, by simp [intOf]; omega⟩
        | true =>
          have HS1 : Hid (Sort.scanUp (fun x => !lt dd[a]! x) dd (j) (i) = i2) := by
            have h1 := HU.out.2
            rw [Sort.scanUp, if_neg (by simp [hl])] at h1
            exact h1.symm
          go_wp2_with fail
          refine (HE.out.lessI HU.out.1.1 HU.out.1.2 a i2 _ _ rfl rfl (by omega) (by omega) true hl).mono ?_
          rintro _ w5 ⟨rfl, h5⟩
          have HA : Hid (At blk R W w5 dd) := (h5 : At blk R W w5 dd)
          clear h5 HU
          go_wp2
          go_loopw [10] (fun su wx => ∃ j2 : Nat, su = .int .i64 j2 ∧ j2 ≤ j ∧ i2 ≤ j2 + 1 ∧ Hid (At blk R W wx dd ∧ Sort.scanDown (fun x => lt dd[a]! x) dd i2 j2 = Sort.scanDown (fun x => lt dd[a]! x) dd i2 (j))) (fun su _ => (intOf su).toNat)
          case atStart => exact ⟨j, by first | rfl | go_num, Nat.le_refl _, by omega, (⟨HA.out, rfl⟩ : At blk R W _ dd ∧ Sort.scanDown (fun x => lt dd[a]! x) dd i2 (j) = Sort.scanDown (fun x => lt dd[a]! x) dd i2 (j))⟩
          case round =>
            obtain ⟨j2, rfl, hj1, hj2, HD⟩ := hrel
            clear HA
            by_cases hij2 : i2 ≤ j2

            · obtain ⟨k, rfl⟩ : ∃ k, j2 = k + 1 := ⟨j2 - 1, by omega⟩
              cases hl2 : lt dd[a]! dd[(k + 1)]! with
              | true =>
                have HQ : Hid (Sort.scanDown (fun x => lt dd[a]! x) dd i2 k = Sort.scanDown (fun x => lt dd[a]! x) dd i2 (j)) := by
                  have h1 := HD.out.2
                  rw [Sort.scanDown, if_pos (by simp [hl2]; omega)] at h1
                  exact h1
                go_wp2_with fail
                refine (HE.out.lessI HD.out.1.1 HD.out.1.2 a (k + 1) _ _ (by omega) (by omega) (by omega) (by omega) true hl2).mono ?_
                rintro _ w5 ⟨rfl, h5⟩
                have HF : Hid (At blk R W w5 dd ∧ Sort.scanDown (fun x => lt dd[a]! x) dd i2 k = Sort.scanDown (fun x => lt dd[a]! x) dd i2 (j)) := (⟨h5, HQ.out⟩ : At blk R W w5 dd ∧ Sort.scanDown (fun x => lt dd[a]! x) dd i2 k = Sort.scanDown (fun x => lt dd[a]! x) dd i2 (j))
                clear h5
                go_wp2
                exact ⟨⟨k, by go_num, by omega, by omega, HF⟩, by simp [intOf]⟩
              | false =>
                have hne : i2 < k + 1 := by
                  rcases Nat.lt_or_ge i2 (k + 1) with h9 | h9
                  · exact h9
                  · obtain rfl : i2 = k + 1 := by omega
                    rw [hl] at hl2
                    cases hl2
                have HS2 : Hid (Sort.scanDown (fun x => lt dd[a]! x) dd i2 (j) = k + 1) := by
                  have h1 := HD.out.2
                  rw [Sort.scanDown, if_neg (by simp [hl2])] at h1
                  exact h1.symm
                go_wp2_with fail
                refine (HE.out.lessI HD.out.1.1 HD.out.1.2 a (k + 1) _ _ (by omega) (by omega) (by omega) (by omega) false hl2).mono ?_
                rintro _ w5 ⟨rfl, h5⟩
                have HA : Hid (At blk R W w5 dd) := (h5 : At blk R W w5 dd)
                clear h5 HD
                have HN : Hid (Sort.partEqLoop lt a (i2 + 1) ((k + 1) - 1) (Sort.swp dd i2 (k + 1)) = Sort.partitionEqual lt d a b pivot) := by
                  have h1 := HEQ.out
                  rw [Sort.partEqLoop_eq, HS1.out, HS2.out, if_neg (by omega)] at h1
                  exact h1
                go_wp2_with fail
                refine (HE.out.swapI HA.out.1 HA.out.2 i2 (k + 1) _ _ (by omega) (by omega) (by omega) (by omega)).mono ?_
                rintro _ w7 ⟨rfl, h7⟩
                have HF : Hid (∃ dd, At blk R W w7 dd ∧ Sort.partEqLoop lt a (i2 + 1) ((k + 1) - 1) dd = Sort.partitionEqual lt d a b pivot) := (⟨_, h7, HN.out⟩ : ∃ dd, At blk R W w7 dd ∧ Sort.partEqLoop lt a (i2 + 1) ((k + 1) - 1) dd = Sort.partitionEqual lt d a b pivot)
                clear h7
                go_wp2
                exact ⟨⟨i2 + 1, (k + 1) - 1, by go_num, by go_num, by omega, by omega, by omega, HF⟩, by simp [intOf]; omega⟩
            · have HS2 : Hid (Sort.scanDown (fun x => lt dd[a]! x) dd i2 (j) = j2) := by
                have h1 := HD.out.2
                cases j2 with
                | zero => exact h1.symm
                | succ k =>
                  rw [Sort.scanDown, if_neg (by simp only [Bool.and_eq_true, decide_eq_true_eq]; omega)] at h1
                  exact h1.symm
              have HA : Hid (At blk R W wr dd) := HD.out.1
              clear HD
              have HN : Hid ((i2, dd) = Sort.partitionEqual lt d a b pivot) := by
                have h1 := HEQ.out
                rw [Sort.partEqLoop_eq, HS1.out, HS2.out, if_pos (by omega)] at h1
                exact h1
              go_wp2
              go_ret
              rw [← HN.out]
              exact ⟨rfl, HA.out⟩
      · have HS1 : Hid (Sort.scanUp (fun x => !lt dd[a]! x) dd (j) (i) = i2) := by
          have h1 := HU.out.2
          rw [Sort.scanUp, if_neg (by simp only [Bool.and_eq_true, decide_eq_true_eq]; omega)] at h1
          exact h1.symm
        have HA : Hid (At blk R W wr dd) := HU.out.1
        clear HU
        go_wp2
        go_loopw [10] (fun su wx => ∃ j2 : Nat, su = .int .i64 j2 ∧ j2 ≤ j ∧ i2 ≤ j2 + 1 ∧ Hid (At blk R W wx dd ∧ Sort.scanDown (fun x => lt dd[a]! x) dd i2 j2 = Sort.scanDown (fun x => lt dd[a]! x) dd i2 (j))) (fun su _ => (intOf su).toNat)
        case atStart => exact ⟨j, by first | rfl | go_num, Nat.le_refl _, by omega, (⟨HA.out, rfl⟩ : At blk R W _ dd ∧ Sort.scanDown (fun x => lt dd[a]! x) dd i2 (j) = Sort.scanDown (fun x => lt dd[a]! x) dd i2 (j))⟩
        case round =>
          obtain ⟨j2, rfl, hj1, hj2, HD⟩ := hrel
          clear HA
          by_cases hij2 : i2 ≤ j2

          · exfalso; omega
          · have HS2 : Hid (Sort.scanDown (fun x => lt dd[a]! x) dd i2 (j) = j2) := by
              have h1 := HD.out.2
              cases j2 with
              | zero => exact h1.symm
              | succ k =>
                rw [Sort.scanDown, if_neg (by simp only [Bool.and_eq_true, decide_eq_true_eq]; omega)] at h1
                exact h1.symm
            have HA : Hid (At blk R W wr dd) := HD.out.1
            clear HD
            have HN : Hid ((i2, dd) = Sort.partitionEqual lt d a b pivot) := by
              have h1 := HEQ.out
              rw [Sort.partEqLoop_eq, HS1.out, HS2.out, if_pos (by omega)] at h1
              exact h1
            go_wp2
            go_ret
            rw [← HN.out]
            exact ⟨rfl, HA.out⟩
end
end Go.Proofs.Ytaihafoopoaahaa
