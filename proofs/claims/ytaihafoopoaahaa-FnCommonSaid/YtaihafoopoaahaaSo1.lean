/- The sort through an interface over a pointer: what is asked of the caller's methods; the walk of insertionSort. Under sizes alone. -/
import Derived.Test.YtaihafoopoaahaaLaw
import Derived.Test.YtaihafoopoaahaaCommon
import Derived.Sort.Defs
import Derived.Lib.Walk
import Derived.Shelf.Abstract
namespace Go.Proofs.Ytaihafoopoaahaa
open Go.RowKit

abbrev rcv (sb : Nat) : Value := .pointer (some ⟨sb, 0, none⟩)
theorem finds_Less (sb : Nat) (w : World) : (method (Try.prog.types.size + 100) 39 (rcv sb) "Less").run Try.prog w = .ok (65, rcv sb) w := by kernel_rfl
theorem finds_Swap (sb : Nat) (w : World) : (method (Try.prog.types.size + 100) 39 (rcv sb) "Swap").run Try.prog w = .ok (66, rcv sb) w := by kernel_rfl
theorem finds_Len (sb : Nat) (w : World) : (method (Try.prog.types.size + 100) 39 (rcv sb) "Len").run Try.prog w = .ok (64, rcv sb) w := by kernel_rfl

/-- What a sort leans on: R W d: in the world W the row holds d. -/
structure SortEnv (sb blk B sz : Nat) (lt : Nat → Nat → Bool) (R : World → Array Nat → Prop) : Prop where
  size : ∀ W d, R W d → d.size = sz
  at_ : ∀ W d, R W d → B ≤ W.heap.size
  low : blk < B
  keep : ∀ W W' d, R W d → Below B W W' → R W' d
  less : ∀ W d, R W d → ∀ i j : Nat, i < sz → j < sz → Calls Try.prog 65 #[rcv sb, .int .i64 i, .int .i64 j] W fun e w' => e = .returned (.bool (lt d[i]! d[j]!)) ∧ Below W.heap.size W w'
  swap : ∀ W d, R W d → ∀ i j : Nat, i < sz → j < sz → Calls Try.prog 66 #[rcv sb, .int .i64 i, .int .i64 j] W fun e w' => e = .returned (.tuple #[]) ∧ Chg (fun g => g = blk) W w' ∧ R w' (Sort.swp d i j)
  small : sz ≤ 1099511627776

theorem SortEnv.grow {sb blk B sz : Nat} {lt : Nat → Nat → Bool} {R : World → Array Nat → Prop} (h : SortEnv sb blk B sz lt R) (W W' : World) (d : Array Nat) (hR : R W d) (hb : Below W.heap.size W W') : R W' d :=
  h.keep W W' d hR (hb.mono (h.at_ W d hR))

theorem enters_Less : ∀ args w, (callFunc 65 args).run Try.prog w = .ok (.enter 65 args) w := enters_of Try.func65 (by kernel_rfl) rfl
theorem enters_Swap : ∀ args w, (callFunc 66 args).run Try.prog w = .ok (.enter 66 args) w := enters_of Try.func66 (by kernel_rfl) rfl

section
variable {sb blk B sz : Nat} {lt : Nat → Nat → Bool} {R : World → Array Nat → Prop}
set_option linter.unusedSimpArgs false in
set_option linter.unusedVariables false in
set_option maxHeartbeats 1000000 in
set_option maxRecDepth 100000 in
theorem insertionSort_any (h : SortEnv sb blk B sz lt R) (W : World) (d : Array Nat) (hR : R W d) (a b : Nat) (hab : a ≤ b) (hb : b ≤ sz) :
    Calls Try.prog 34 #[.iface 39 (rcv sb), .int .i64 a, .int .i64 b] W fun e w' => e = .returned (.tuple #[]) ∧ Chg (fun g => g = blk) W w' ∧ R w' (Sort.insertionSort lt d a b) := by
  have mL := finds_Less sb
  have mS := finds_Swap sb
  have eL := enters_Less
  have eS := enters_Swap
  have HE := hide h
  have HR := hide hR
  have hsm := h.small
  clear h hR
  go_enter Try.func34, Try.ntmps34
  go_wp2
  go_loopw [6] (fun s6 wr => ∃ i : Nat, s6 = .int .i64 i ∧ a + 1 ≤ i ∧ (i ≤ b ∨ i = a + 1) ∧ Hid (∃ dd, Chg (fun g => g = blk) W wr ∧ R wr dd ∧ Sort.insOuter lt a b i dd = Sort.insertionSort lt d a b)) (fun s6 _ => b + 1 - (intOf s6).toNat)
  case atStart => exact ⟨a + 1, by go_num, Nat.le_refl _, Or.inr rfl, (⟨d, Chg.refl _ _, HR.out, rfl⟩ : ∃ dd, Chg (fun g => g = blk) W W ∧ R W dd ∧ Sort.insOuter lt a b (a + 1) dd = Sort.insertionSort lt d a b)⟩
  case round =>
    obtain ⟨i, rfl, hai, hib, HI⟩ := hrel
    obtain ⟨dd, hch, hRd, heq⟩ := HI.out
    by_cases hlt : i < b
    · rw [Sort.insOuter, if_pos hlt] at heq
      have HEQ := hide heq
      have HCH := hide hch
      have HRD := hide hRd
      clear heq hch hRd HI
      go_wp2
      go_loopw [7] (fun s7 wx => ∃ j : Nat, s7 = .int .i64 j ∧ a ≤ j ∧ j ≤ i ∧ Hid (∃ de, Chg (fun g => g = blk) W wx ∧ R wx de ∧ Sort.insInner lt a j de = Sort.insInner lt a i dd)) (fun s7 _ => (intOf s7).toNat)
      case atStart => exact ⟨i, rfl, by omega, Nat.le_refl _, (⟨dd, HCH.out, HRD.out, rfl⟩ : ∃ de, Chg (fun g => g = blk) W wr ∧ R wr de ∧ Sort.insInner lt a i de = Sort.insInner lt a i dd)⟩
      case round =>
        obtain ⟨j, rfl, haj, hji, HJ⟩ := hrel
        obtain ⟨de, hch, hRd, heq⟩ := HJ.out
        by_cases hja : a < j
        · obtain ⟨k, rfl⟩ : ∃ k, j = k + 1 := ⟨j - 1, by omega⟩
          have hless := HE.out.less wr de hRd (k + 1) k (by omega) (by omega)
          have HRE := hide hRd
          have HCE := hide hch
          cases hlb : lt de[k + 1]! de[k]! with
          | true =>
            have HQ : Hid (Sort.insInner lt a k (Sort.swp de (k + 1) k) = Sort.insInner lt a i dd) := by
              have h1 := heq
              rw [Sort.insInner, if_pos (by simp [hja, hlb])] at h1
              exact h1
            rw [hlb] at hless
            have HLS := hide hless
            clear hless heq hch hRd HJ hlb
            go_wp2_with fail
            refine HLS.out.mono ?_
            rintro _ w5 ⟨rfl, hb5⟩
            have hr5 := HE.out.grow _ _ _ HRE.out hb5
            have HSW := hide (HE.out.swap w5 de hr5 (k + 1) k (by omega) (by omega))
            have HC5 := hide (HCE.out.trans (Chg.ofBelow hb5 (fun g => g = blk)) (fun _ _ h => h))
            clear hb5 hr5
            go_wp2_with fail
            refine HSW.out.mono ?_
            rintro _ w6 ⟨rfl, hc6, hr6⟩
            have HF : Hid (∃ de, Chg (fun g => g = blk) W w6 ∧ R w6 de ∧ Sort.insInner lt a k de = Sort.insInner lt a i dd) := (⟨_, HC5.out.trans hc6 (fun _ _ h => h), hr6, HQ.out⟩ : ∃ de, Chg (fun g => g = blk) W w6 ∧ R w6 de ∧ Sort.insInner lt a k de = Sort.insInner lt a i dd)
            clear hc6 hr6
            go_wp2
            exact ⟨⟨k, by go_num, by omega, by omega, HF⟩, by simp [intOf]⟩
          | false =>
            have HQ : Hid (de = Sort.insInner lt a i dd) := by
              have h1 := heq
              rw [Sort.insInner, if_neg (by simp [hlb])] at h1
              exact h1
            rw [hlb] at hless
            have HLS := hide hless
            clear hless heq hch hRd HJ hlb
            go_wp2_with fail
            refine HLS.out.mono ?_
            rintro _ w5 ⟨rfl, hb5⟩
            have HF : Hid (∃ dd, Chg (fun g => g = blk) W w5 ∧ R w5 dd ∧ Sort.insOuter lt a b (i + 1) dd = Sort.insertionSort lt d a b) := (⟨_, HCE.out.trans (Chg.ofBelow hb5 (fun g => g = blk)) (fun _ _ h => h), HE.out.grow _ _ _ HRE.out hb5, by rw [HQ.out]; exact HEQ.out⟩ : ∃ dd, Chg (fun g => g = blk) W w5 ∧ R w5 dd ∧ Sort.insOuter lt a b (i + 1) dd = Sort.insertionSort lt d a b)
            clear hb5
            go_wp2
            exact ⟨⟨i + 1, by go_num, by omega, Or.inl (by omega), HF⟩, by simp [intOf]; omega⟩
        · have hq : de = Sort.insInner lt a i dd := by
            rw [← heq]
            cases j with
            | zero => rfl
            | succ k => rw [Sort.insInner, if_neg (by simp only [Bool.and_eq_true, decide_eq_true_eq]; omega)]
          have HF : Hid (∃ dd, Chg (fun g => g = blk) W wr ∧ R wr dd ∧ Sort.insOuter lt a b (i + 1) dd = Sort.insertionSort lt d a b) := (⟨_, hch, hRd, by rw [hq]; exact HEQ.out⟩ : ∃ dd, Chg (fun g => g = blk) W wr ∧ R wr dd ∧ Sort.insOuter lt a b (i + 1) dd = Sort.insertionSort lt d a b)
          clear hq heq hch hRd HJ
          go_wp2
          exact ⟨⟨i + 1, by go_num, by omega, Or.inl (by omega), HF⟩, by simp [intOf]; omega⟩
    · rw [Sort.insOuter, if_neg hlt] at heq
      have HF : Hid (Chg (fun g => g = blk) W wr ∧ R wr (Sort.insertionSort lt d a b)) := (⟨hch, heq ▸ hRd⟩ : Chg (fun g => g = blk) W wr ∧ R wr (Sort.insertionSort lt d a b))
      clear heq hch hRd HI
      go_wp2
      go_end0
      exact ⟨rfl, HF.out.1, HF.out.2⟩
end
end Go.Proofs.Ytaihafoopoaahaa
