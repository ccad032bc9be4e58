/- The walks of heapSort and reverseRange. Under sizes alone. -/
import Derived.Test.YtaihafoopoaahaaSo2
namespace Go.Proofs.Ytaihafoopoaahaa
open Go.RowKit

section
variable {sb blk B sz : Nat} {lt : Nat → Nat → Bool} {R : World → Array Nat → Prop}
/-- The state in the middle of a sort: the row holds d; only its block has changed since W0. -/
def At (blk : Nat) (R : World → Array Nat → Prop) (W0 W : World) (d : Array Nat) : Prop := Chg (fun g => g = blk) W0 W ∧ R W d

set_option linter.unusedSimpArgs false in
set_option linter.unusedVariables false in
set_option maxHeartbeats 1000000 in
set_option maxRecDepth 100000 in
theorem reverseRange_any (h : SortEnv sb blk B sz lt R) (W : World) (d : Array Nat) (hR : R W d) (a b : Nat) (hab : a < b) (hb : b ≤ sz) :
    Calls Try.prog 38 #[.iface 39 (rcv sb), .int .i64 a, .int .i64 b] W fun e w' => e = .returned (.tuple #[]) ∧ Chg (fun g => g = blk) W w' ∧ R w' (Sort.reverseRange d a b) := by
  have mL := finds_Less sb
  have mS := finds_Swap sb
  have eL := enters_Less
  have eS := enters_Swap
  have HE := hide h
  have HR := hide hR
  have hsm := h.small
  clear h hR
  go_enter Try.func38, Try.ntmps38
  go_wp2
  go_loopw [6, 7] (fun s6 s7 wr => ∃ i j : Nat, s6 = .int .i64 i ∧ s7 = .int .i64 j ∧ a ≤ i ∧ i ≤ b ∧ j < b ∧ Hid (∃ dd, At blk R W wr dd ∧ Sort.reverseLoop i j dd = Sort.reverseRange d a b)) (fun s6 s7 _ => b - (intOf s6).toNat)
  case atStart => exact ⟨a, b - 1, rfl, by go_num, by omega, by omega, by omega, (⟨d, ⟨Chg.refl _ _, HR.out⟩, rfl⟩ : ∃ dd, At blk R W W dd ∧ Sort.reverseLoop a (b - 1) dd = Sort.reverseRange d a b)⟩
  case round =>
    obtain ⟨i, j, rfl, rfl, hai, hib, hjb, HI⟩ := hrel
    obtain ⟨dd, hat, heq⟩ := HI.out
    by_cases hij : i < j
    · rw [Sort.reverseLoop, if_pos hij] at heq
      have HAT := hide hat
      have HEQ := hide heq
      clear heq hat HI
      go_wp2_with fail
      refine (HE.out.swapI HAT.out.1 HAT.out.2 i j _ _ rfl rfl (by omega) (by omega)).mono ?_
      rintro _ w7 ⟨rfl, hc7, hr7⟩
      have HF : Hid (∃ dd, At blk R W w7 dd ∧ Sort.reverseLoop (i + 1) (j - 1) dd = Sort.reverseRange d a b) := (⟨_, ⟨hc7, hr7⟩, HEQ.out⟩ : ∃ dd, At blk R W w7 dd ∧ Sort.reverseLoop (i + 1) (j - 1) dd = Sort.reverseRange d a b)
      clear hc7 hr7
      go_wp2
      exact ⟨⟨i + 1, j - 1, by go_num, by go_num, by omega, by omega, by omega, HF⟩, by simp [intOf]; omega⟩
    · rw [Sort.reverseLoop, if_neg hij] at heq
      subst heq
      have HAT := hide hat
      clear hat HI
      go_wp2
      go_end0
      exact ⟨rfl, HAT.out⟩

theorem siftDownI (h : SortEnv sb blk B sz lt R) {W0 W : World} {d : Array Nat} (hat : At blk R W0 W d) (lo hi first : Nat) (x y z : Int) (hx : x = (lo : Int)) (hy : y = (hi : Int)) (hz : z = (first : Int)) (hf : first + hi ≤ sz) (hlo : lo ≤ hi) :
    Calls Try.prog 42 #[.iface 39 (rcv sb), .int .i64 x, .int .i64 y, .int .i64 z] W fun e w' => e = .returned (.tuple #[]) ∧ At blk R W0 w' (Sort.siftDown lt hi first lo d) := by
  subst hx hy hz
  exact (siftDown_any h W d hat.2 lo hi first hf hlo).mono fun _ _ ⟨he, hc, hr⟩ => ⟨he, hat.1.trans hc (fun _ _ h => h), hr⟩

set_option linter.unusedSimpArgs false in
set_option linter.unusedVariables false in
set_option maxHeartbeats 1000000 in
set_option maxRecDepth 100000 in
theorem heapSort_any (h : SortEnv sb blk B sz lt R) (W : World) (d : Array Nat) (hR : R W d) (a b : Nat) (hab : a < b) (hb : b ≤ sz) :
    Calls Try.prog 35 #[.iface 39 (rcv sb), .int .i64 a, .int .i64 b] W fun e w' => e = .returned (.tuple #[]) ∧ Chg (fun g => g = blk) W w' ∧ R w' (Sort.heapSort lt d a b) := by
  have mL := finds_Less sb
  have mS := finds_Swap sb
  have eL := enters_Less
  have eS := enters_Swap
  have HE := hide h
  have HR := hide hR
  have hsm := h.small
  clear h hR
  go_enter Try.func35, Try.ntmps35
  go_wp2
  go_loopw [9] (fun s9 wr => ∃ (k : Nat) (x : Int), s9 = .int .i64 x ∧ x = (k : Int) - 1 ∧ k ≤ (b - a - 1) / 2 + 1 ∧ Hid (∃ dd, At blk R W wr dd ∧ Sort.heapPop lt a (b - a) (Sort.heapBuild lt (b - a) a k dd) = Sort.heapSort lt d a b)) (fun s9 _ => (intOf s9 + 1).toNat)
  case atStart =>
    refine ⟨(b - a - 1) / 2 + 1, _, rfl, ?_, Nat.le_refl _, (⟨d, ⟨Chg.refl _ _, HR.out⟩, rfl⟩ : ∃ dd, At blk R W W dd ∧ Sort.heapPop lt a (b - a) (Sort.heapBuild lt (b - a) a ((b - a - 1) / 2 + 1) dd) = Sort.heapSort lt d a b)⟩
    omega
  case round =>
    obtain ⟨k, x, rfl, hx, hk, HI⟩ := hrel
    obtain ⟨dd, hat, heq⟩ := HI.out
    cases k with
    | succ k =>
      obtain rfl : x = (k : Int) := by omega
      clear hx
      rw [Sort.heapBuild] at heq
      have HAT := hide hat
      have HEQ := hide heq
      clear heq hat HI
      go_wp2_with fail
      refine (siftDownI HE.out HAT.out k (b - a) a _ _ _ (by omega) (by omega) (by omega) (by omega) (by omega)).mono ?_
      rintro _ w7 ⟨rfl, h7⟩
      have HF : Hid (∃ dd, At blk R W w7 dd ∧ Sort.heapPop lt a (b - a) (Sort.heapBuild lt (b - a) a k dd) = Sort.heapSort lt d a b) := (⟨_, h7, HEQ.out⟩ : ∃ dd, At blk R W w7 dd ∧ Sort.heapPop lt a (b - a) (Sort.heapBuild lt (b - a) a k dd) = Sort.heapSort lt d a b)
      clear h7
      go_wp2
      exact ⟨⟨k, _, rfl, by go_num, by omega, HF⟩, by simp [intOf]⟩
    | zero =>
      obtain rfl : x = -1 := by omega
      rw [Sort.heapBuild] at heq
      have HAT := hide hat
      have HEQ := hide heq
      clear heq hat HI hx hk
      go_wp2
      go_loopw [10] (fun s10 wx => ∃ (k : Nat) (x : Int), s10 = .int .i64 x ∧ x = (k : Int) - 1 ∧ k ≤ b - a ∧ Hid (∃ dd, At blk R W wx dd ∧ Sort.heapPop lt a k dd = Sort.heapSort lt d a b)) (fun s10 _ => (intOf s10 + 1).toNat)
      case atStart =>
        refine ⟨b - a, _, rfl, ?_, Nat.le_refl _, (⟨dd, HAT.out, HEQ.out⟩ : ∃ dd, At blk R W wr dd ∧ Sort.heapPop lt a (b - a) dd = Sort.heapSort lt d a b)⟩
        omega
      case round =>
        obtain ⟨k, x, rfl, hx, hk, HI⟩ := hrel
        obtain ⟨de, hat, heq⟩ := HI.out
        clear HAT HEQ
        cases k with
        | succ k =>
          obtain rfl : x = (k : Int) := by omega
          clear hx
          rw [Sort.heapPop] at heq
          have HAT := hide hat
          have HEQ := hide heq
          clear heq hat HI
          go_wp2_with fail
          refine (HE.out.swapI HAT.out.1 HAT.out.2 a (a + k) _ _ rfl (by omega) (by omega) (by omega)).mono ?_
          rintro _ w6 ⟨rfl, hc6, hr6⟩
          have HAT6 : Hid (At blk R W w6 (Sort.swp de a (a + k))) := (⟨hc6, hr6⟩ : At blk R W w6 (Sort.swp de a (a + k)))
          clear hc6 hr6
          go_wp2_with fail
          refine (siftDownI HE.out HAT6.out 0 k a _ _ _ (by omega) (by omega) (by omega) (by omega) (by omega)).mono ?_
          rintro _ w7 ⟨rfl, h7⟩
          have HF : Hid (∃ dd, At blk R W w7 dd ∧ Sort.heapPop lt a k dd = Sort.heapSort lt d a b) := (⟨_, h7, HEQ.out⟩ : ∃ dd, At blk R W w7 dd ∧ Sort.heapPop lt a k dd = Sort.heapSort lt d a b)
          clear h7
          go_wp2
          exact ⟨⟨k, _, rfl, by go_num, by omega, HF⟩, by simp [intOf]⟩
        | zero =>
          obtain rfl : x = -1 := by omega
          rw [Sort.heapPop] at heq
          subst heq
          have HAT := hide hat
          clear hat HI hx hk
          go_wp2
          go_end0
          exact ⟨rfl, HAT.out⟩
end
end Go.Proofs.Ytaihafoopoaahaa
