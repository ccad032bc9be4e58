/- The walks of siftDown, heapSort, reverseRange. Under sizes alone. -/
import Derived.Test.YtaihafoopoaahaaSo1
namespace Go.Proofs.Ytaihafoopoaahaa
open Go.RowKit

section
variable {sb blk B sz : Nat} {lt : Nat → Nat → Bool} {R : World → Array Nat → Prop}
/-- Behind a Less nothing has changed. -/
theorem SortEnv.lessC (h : SortEnv sb blk B sz lt R) {W0 W : World} {d : Array Nat} (hc : Chg (fun g => g = blk) W0 W) (hR : R W d) (i j : Nat) (hi : i < sz) (hj : j < sz) :
    Calls Try.prog 65 #[rcv sb, .int .i64 i, .int .i64 j] W fun e w' => e = .returned (.bool (lt d[i]! d[j]!)) ∧ Chg (fun g => g = blk) W0 w' ∧ R w' d :=
  (h.less W d hR i j hi hj).mono fun _ _ ⟨he, hb⟩ => ⟨he, hc.trans (Chg.ofBelow hb (fun g => g = blk)) (fun _ _ h => h), h.grow _ _ _ hR hb⟩
theorem SortEnv.swapC (h : SortEnv sb blk B sz lt R) {W0 W : World} {d : Array Nat} (hc : Chg (fun g => g = blk) W0 W) (hR : R W d) (i j : Nat) (hi : i < sz) (hj : j < sz) :
    Calls Try.prog 66 #[rcv sb, .int .i64 i, .int .i64 j] W fun e w' => e = .returned (.tuple #[]) ∧ Chg (fun g => g = blk) W0 w' ∧ R w' (Sort.swp d i j) :=
  (h.swap W d hR i j hi hj).mono fun _ _ ⟨he, hb, hr⟩ => ⟨he, hc.trans hb (fun _ _ h => h), hr⟩

theorem SortEnv.lessI (h : SortEnv sb blk B sz lt R) {W0 W : World} {d : Array Nat} (hc : Chg (fun g => g = blk) W0 W) (hR : R W d) (i j : Nat) (x y : Int) (hx : x = (i : Int)) (hy : y = (j : Int)) (hi : i < sz) (hj : j < sz) (b : Bool) (hb : lt d[i]! d[j]! = b) :
    Calls Try.prog 65 #[rcv sb, .int .i64 x, .int .i64 y] W fun e w' => e = .returned (.bool b) ∧ Chg (fun g => g = blk) W0 w' ∧ R w' d := by
  subst hx hy hb
  exact h.lessC hc hR i j hi hj
theorem SortEnv.swapI (h : SortEnv sb blk B sz lt R) {W0 W : World} {d : Array Nat} (hc : Chg (fun g => g = blk) W0 W) (hR : R W d) (i j : Nat) (x y : Int) (hx : x = (i : Int)) (hy : y = (j : Int)) (hi : i < sz) (hj : j < sz) :
    Calls Try.prog 66 #[rcv sb, .int .i64 x, .int .i64 y] W fun e w' => e = .returned (.tuple #[]) ∧ Chg (fun g => g = blk) W0 w' ∧ R w' (Sort.swp d i j) := by
  subst hx hy
  exact h.swapC hc hR i j hi hj

set_option linter.unusedSimpArgs false in
set_option linter.unusedVariables false in
set_option maxHeartbeats 1000000 in
set_option maxRecDepth 100000 in
theorem siftDown_any (h : SortEnv sb blk B sz lt R) (W : World) (d : Array Nat) (hR : R W d) (lo hi first : Nat) (hf : first + hi ≤ sz) (hlo : lo ≤ hi) :
    Calls Try.prog 42 #[.iface 39 (rcv sb), .int .i64 lo, .int .i64 hi, .int .i64 first] W fun e w' => e = .returned (.tuple #[]) ∧ Chg (fun g => g = blk) W w' ∧ R w' (Sort.siftDown lt hi first lo d) := by
  have mL := finds_Less sb
  have mS := finds_Swap sb
  have eL := enters_Less
  have eS := enters_Swap
  have HE := hide h
  have HR := hide hR
  have hsm := h.small
  clear h hR
  go_enter Try.func42, Try.ntmps42
  go_wp2
  go_loopw [8] (fun s8 wr => ∃ r : Nat, s8 = .int .i64 r ∧ r ≤ hi ∧ Hid (∃ dd, Chg (fun g => g = blk) W wr ∧ R wr dd ∧ Sort.siftDown lt hi first r dd = Sort.siftDown lt hi first lo d)) (fun s8 _ => hi + 1 - (intOf s8).toNat)
  case atStart => exact ⟨lo, rfl, hlo, (⟨d, Chg.refl _ _, HR.out, rfl⟩ : ∃ dd, Chg (fun g => g = blk) W W ∧ R W dd ∧ Sort.siftDown lt hi first lo dd = Sort.siftDown lt hi first lo d)⟩
  case round =>
    obtain ⟨r, rfl, hr, HI⟩ := hrel
    obtain ⟨dd, hch, hRd, heq⟩ := HI.out
    by_cases hge : 2 * r + 1 ≥ hi
    · rw [Sort.siftDown, dif_pos hge] at heq
      have HF : Hid (Chg (fun g => g = blk) W wr ∧ R wr (Sort.siftDown lt hi first lo d)) := (⟨hch, heq ▸ hRd⟩ : Chg (fun g => g = blk) W wr ∧ R wr (Sort.siftDown lt hi first lo d))
      clear heq hch hRd HI
      go_wp2
      go_end0
      exact ⟨rfl, HF.out.1, HF.out.2⟩
    · rw [Sort.siftDown, dif_neg hge] at heq
      have HRD := hide hRd
      have HCH := hide hch
      have HEQ := hide heq
      clear heq hch hRd HI
      by_cases hc2 : 2 * r + 2 < hi
      · cases hl1 : lt dd[first + (2 * r + 1)]! dd[first + (2 * r + 1) + 1]! with
        | true =>
          cases hl2 : lt dd[first + r]! dd[first + (2 * r + 2)]! with
          | true =>
            have HQ : Hid (Sort.siftDown lt hi first (2 * r + 2) (Sort.swp dd (first + r) (first + (2 * r + 2))) = Sort.siftDown lt hi first lo d) := by
              have h1 := HEQ.out
              rw [if_pos (by simp [hl1]; omega), if_neg (by simp [hl2]), dif_pos hc2] at h1
              exact h1
            go_wp2_with fail
            refine (HE.out.lessI HCH.out HRD.out (first + (2 * r + 1)) (first + (2 * r + 1) + 1) _ _ (by omega) (by omega) (by omega) (by omega) true hl1).mono ?_
            rintro _ w5 ⟨rfl, hc5, hr5⟩
            have HC5 := hide hc5
            have HR5 := hide hr5
            clear hc5 hr5
            go_wp2_with fail
            refine (HE.out.lessI HC5.out HR5.out (first + r) (first + (2 * r + 2)) _ _ (by omega) (by omega) (by omega) (by omega) true hl2).mono ?_
            rintro _ w6 ⟨rfl, hc6, hr6⟩
            have HC6 := hide hc6
            have HR6 := hide hr6
            clear hc6 hr6
            go_wp2_with fail
            refine (HE.out.swapI HC6.out HR6.out (first + r) (first + (2 * r + 2)) _ _ (by omega) (by omega) (by omega) (by omega)).mono ?_
            rintro _ w7 ⟨rfl, hc7, hr7⟩
            have HF : Hid (∃ dd, Chg (fun g => g = blk) W w7 ∧ R w7 dd ∧ Sort.siftDown lt hi first (2 * r + 2) dd = Sort.siftDown lt hi first lo d) := (⟨_, hc7, hr7, HQ.out⟩ : ∃ dd, Chg (fun g => g = blk) W w7 ∧ R w7 dd ∧ Sort.siftDown lt hi first (2 * r + 2) dd = Sort.siftDown lt hi first lo d)
            clear hc7 hr7
            go_wp2
            exact ⟨⟨2 * r + 2, by go_num, by omega, HF⟩, by simp [intOf]; omega⟩
          | false =>
            have HQ : Hid (dd = Sort.siftDown lt hi first lo d) := by
              have h1 := HEQ.out
              rw [if_pos (by simp [hl1]; omega), if_pos (by simp [hl2])] at h1
              exact h1
            go_wp2_with fail
            refine (HE.out.lessI HCH.out HRD.out (first + (2 * r + 1)) (first + (2 * r + 1) + 1) _ _ (by omega) (by omega) (by omega) (by omega) true hl1).mono ?_
            rintro _ w5 ⟨rfl, hc5, hr5⟩
            have HC5 := hide hc5
            have HR5 := hide hr5
            clear hc5 hr5
            go_wp2_with fail
            refine (HE.out.lessI HC5.out HR5.out (first + r) (first + (2 * r + 2)) _ _ (by omega) (by omega) (by omega) (by omega) false hl2).mono ?_
            rintro _ w6 ⟨rfl, hc6, hr6⟩
            rw [HQ.out] at hr6
            have HC6 := hide hc6
            have HR6 := hide hr6
            clear hc6 hr6
            go_wp2
            (try simp only [Exit.inBlock, Exit.then]); refine bodyPost_ret (results_none rfl _ _ _) rfl ?_
            exact ⟨rfl, HC6.out, HR6.out⟩
        | false =>
          cases hl2 : lt dd[first + r]! dd[first + (2 * r + 1)]! with
          | true =>
            have HQ : Hid (Sort.siftDown lt hi first (2 * r + 1) (Sort.swp dd (first + r) (first + (2 * r + 1))) = Sort.siftDown lt hi first lo d) := by
              have h1 := HEQ.out
              rw [if_neg (by simp [hl1]), if_neg (by simp [hl2])] at h1
              exact h1
            go_wp2_with fail
            refine (HE.out.lessI HCH.out HRD.out (first + (2 * r + 1)) (first + (2 * r + 1) + 1) _ _ (by omega) (by omega) (by omega) (by omega) false hl1).mono ?_
            rintro _ w5 ⟨rfl, hc5, hr5⟩
            have HC5 := hide hc5
            have HR5 := hide hr5
            clear hc5 hr5
            go_wp2_with fail
            refine (HE.out.lessI HC5.out HR5.out (first + r) (first + (2 * r + 1)) _ _ (by omega) (by omega) (by omega) (by omega) true hl2).mono ?_
            rintro _ w6 ⟨rfl, hc6, hr6⟩
            have HC6 := hide hc6
            have HR6 := hide hr6
            clear hc6 hr6
            go_wp2_with fail
            refine (HE.out.swapI HC6.out HR6.out (first + r) (first + (2 * r + 1)) _ _ (by omega) (by omega) (by omega) (by omega)).mono ?_
            rintro _ w7 ⟨rfl, hc7, hr7⟩
            have HF : Hid (∃ dd, Chg (fun g => g = blk) W w7 ∧ R w7 dd ∧ Sort.siftDown lt hi first (2 * r + 1) dd = Sort.siftDown lt hi first lo d) := (⟨_, hc7, hr7, HQ.out⟩ : ∃ dd, Chg (fun g => g = blk) W w7 ∧ R w7 dd ∧ Sort.siftDown lt hi first (2 * r + 1) dd = Sort.siftDown lt hi first lo d)
            clear hc7 hr7
            go_wp2
            exact ⟨⟨2 * r + 1, by go_num, by omega, HF⟩, by simp [intOf]; omega⟩
          | false =>
            have HQ : Hid (dd = Sort.siftDown lt hi first lo d) := by
              have h1 := HEQ.out
              rw [if_neg (by simp [hl1]), if_pos (by simp [hl2])] at h1
              exact h1
            go_wp2_with fail
            refine (HE.out.lessI HCH.out HRD.out (first + (2 * r + 1)) (first + (2 * r + 1) + 1) _ _ (by omega) (by omega) (by omega) (by omega) false hl1).mono ?_
            rintro _ w5 ⟨rfl, hc5, hr5⟩
            have HC5 := hide hc5
            have HR5 := hide hr5
            clear hc5 hr5
            go_wp2_with fail
            refine (HE.out.lessI HC5.out HR5.out (first + r) (first + (2 * r + 1)) _ _ (by omega) (by omega) (by omega) (by omega) false hl2).mono ?_
            rintro _ w6 ⟨rfl, hc6, hr6⟩
            rw [HQ.out] at hr6
            have HC6 := hide hc6
            have HR6 := hide hr6
            clear hc6 hr6
            go_wp2
            (try simp only [Exit.inBlock, Exit.then]); refine bodyPost_ret (results_none rfl _ _ _) rfl ?_
            exact ⟨rfl, HC6.out, HR6.out⟩
      · cases hl2 : lt dd[first + r]! dd[first + (2 * r + 1)]! with
        | true =>
          have HQ : Hid (Sort.siftDown lt hi first (2 * r + 1) (Sort.swp dd (first + r) (first + (2 * r + 1))) = Sort.siftDown lt hi first lo d) := by
            have h1 := HEQ.out
            rw [if_neg (by simp only [Bool.and_eq_true, decide_eq_true_eq]; omega), if_neg (by simp [hl2])] at h1
            exact h1
          go_wp2_with fail
          refine (HE.out.lessI HCH.out HRD.out (first + r) (first + (2 * r + 1)) _ _ (by omega) (by omega) (by omega) (by omega) true hl2).mono ?_
          rintro _ w5 ⟨rfl, hc5, hr5⟩
          have HC5 := hide hc5
          have HR5 := hide hr5
          clear hc5 hr5
          go_wp2_with fail
          refine (HE.out.swapI HC5.out HR5.out (first + r) (first + (2 * r + 1)) _ _ (by omega) (by omega) (by omega) (by omega)).mono ?_
          rintro _ w6 ⟨rfl, hc6, hr6⟩
          have HF : Hid (∃ dd, Chg (fun g => g = blk) W w6 ∧ R w6 dd ∧ Sort.siftDown lt hi first (2 * r + 1) dd = Sort.siftDown lt hi first lo d) := (⟨_, hc6, hr6, HQ.out⟩ : ∃ dd, Chg (fun g => g = blk) W w6 ∧ R w6 dd ∧ Sort.siftDown lt hi first (2 * r + 1) dd = Sort.siftDown lt hi first lo d)
          clear hc6 hr6
          go_wp2
          exact ⟨⟨2 * r + 1, by go_num, by omega, HF⟩, by simp [intOf]; omega⟩
        | false =>
          have HQ : Hid (dd = Sort.siftDown lt hi first lo d) := by
            have h1 := HEQ.out
            rw [if_neg (by simp only [Bool.and_eq_true, decide_eq_true_eq]; omega), if_pos (by simp [hl2])] at h1
            exact h1
          go_wp2_with fail
          refine (HE.out.lessI HCH.out HRD.out (first + r) (first + (2 * r + 1)) _ _ (by omega) (by omega) (by omega) (by omega) false hl2).mono ?_
          rintro _ w5 ⟨rfl, hc5, hr5⟩
          rw [HQ.out] at hr5
          have HC5 := hide hc5
          have HR5 := hide hr5
          clear hc5 hr5
          go_wp2
          (try simp only [Exit.inBlock, Exit.then]); refine bodyPost_ret (results_none rfl _ _ _) rfl ?_
          exact ⟨rfl, HC5.out, HR5.out⟩
end
end Go.Proofs.Ytaihafoopoaahaa
