/- The walk of partialInsertionSort. Under sizes alone. -/
import Derived.Test.YtaihafoopoaahaaSo4
import Derived.Sort.LotA
namespace Go.Proofs.Ytaihafoopoaahaa
open Go.RowKit

section
variable {sb blk B sz : Nat} {lt : Nat → Nat → Bool} {R : World → Array Nat → Prop}
set_option linter.unusedSimpArgs false in
set_option linter.unusedVariables false in
set_option maxHeartbeats 4000000 in
set_option maxRecDepth 100000 in
theorem partialInsertionSort_any (h : SortEnv sb blk B sz lt R) (W : World) (d : Array Nat) (hR : R W d) (a b : Nat) (hab : a < b) (hb : b ≤ sz) :
    Calls Try.prog 39 #[.iface 39 (rcv sb), .int .i64 a, .int .i64 b] W fun e w' => e = .returned (.bool (Sort.partialInsertionSort lt d a b).2) ∧ At blk R W w' (Sort.partialInsertionSort lt d a b).1 := by
  have mL := finds_Less sb
  have mS := finds_Swap sb
  have eL := enters_Less
  have eS := enters_Swap
  have HE := hide h
  have HR := hide hR
  have hsm := h.small
  clear h hR
  go_enter Try.func39, Try.ntmps39
  go_wp2
  go_loopw [7, 8] (fun s7 s8 wr => ∃ i t : Nat, s7 = .int .i64 i ∧ s8 = .int .i64 t ∧ t ≤ 5 ∧ a + 1 ≤ i ∧ i ≤ b ∧ Hid (∃ dd, At blk R W wr dd ∧ Sort.partialIns lt a b (5 - t) i dd = Sort.partialInsertionSort lt d a b)) (fun _ s8 _ => 5 - (intOf s8).toNat)
  case atStart => exact ⟨a + 1, 0, by go_num, by go_num, by omega, by omega, by omega, (⟨_, ⟨Chg.refl _ _, HR.out⟩, rfl⟩ : ∃ dd, At blk R W W dd ∧ Sort.partialIns lt a b (5 - 0) (a + 1) dd = Sort.partialInsertionSort lt d a b)⟩
  case round =>
    obtain ⟨i, t, rfl, rfl, ht, hi, hib, HI⟩ := hrel
    obtain ⟨dd, hat, heq⟩ := HI.out
    have HAT := hide hat
    clear HI
    by_cases ht5 : t < 5
    · rw [show 5 - t = (5 - (t + 1)) + 1 by omega, Sort.partialIns_succ] at heq
      have HEQ := hide heq
      have hd5 : decide ((t : Int) < 5) = true := by simp; omega
      clear hat heq
      go_wp2
      go_loopw [7] (fun su wx => ∃ i2 : Nat, su = .int .i64 i2 ∧ i ≤ i2 ∧ i2 ≤ b ∧ Hid (At blk R W wx dd ∧ Sort.scanSorted lt dd b i2 = Sort.scanSorted lt dd b i)) (fun su _ => b - (intOf su).toNat)
      case atStart => exact ⟨i, rfl, Nat.le_refl _, by omega, (⟨HAT.out, rfl⟩ : At blk R W wr dd ∧ Sort.scanSorted lt dd b i = Sort.scanSorted lt dd b i)⟩
      case round =>
        obtain ⟨i2, rfl, hi1, hi2, HU⟩ := hrel
        clear HAT
        by_cases hlt : i2 < b
        · cases hl : lt dd[i2]! dd[i2 - 1]! with
          | false =>
            have HQ : Hid (Sort.scanSorted lt dd b (i2 + 1) = Sort.scanSorted lt dd b i) := by
              have h1 := HU.out.2
              rw [Sort.scanSorted, if_pos (by simp [hl]; omega)] at h1
              exact h1
            go_wp2_with fail
            refine (HE.out.lessI HU.out.1.1 HU.out.1.2 i2 (i2 - 1) _ _ (by omega) (by omega) (by omega) (by omega) false hl).mono ?_
            rintro _ w5 ⟨rfl, h5⟩
            have HF : Hid (At blk R W w5 dd ∧ Sort.scanSorted lt dd b (i2 + 1) = Sort.scanSorted lt dd b i) := (⟨h5, HQ.out⟩ : At blk R W w5 dd ∧ Sort.scanSorted lt dd b (i2 + 1) = Sort.scanSorted lt dd b i)
            clear h5
            go_wp2
            exact ⟨⟨i2 + 1, by go_num, by omega, by omega, HF⟩, by simp [intOf]; omega⟩
          | true =>
            have HS1 : Hid (Sort.scanSorted lt dd b i = i2) := by
              have h1 := HU.out.2
              rw [Sort.scanSorted, if_neg (by simp [hl])] at h1
              exact h1.symm
            have HEQ2 := HEQ.out
            rw [HS1.out, if_neg (show ¬ i2 = b by omega)] at HEQ2
            go_wp2_with fail
            refine (HE.out.lessI HU.out.1.1 HU.out.1.2 i2 (i2 - 1) _ _ (by omega) (by omega) (by omega) (by omega) true hl).mono ?_
            rintro _ w5 ⟨rfl, h5⟩
            have HA : Hid (At blk R W w5 dd) := (h5 : At blk R W w5 dd)
            clear h5 HU HEQ
            by_cases h50 : b - a < 50
            · rw [if_pos h50] at HEQ2
              replace HEQ2 := hide HEQ2
              go_wp2
              go_ret
              rw [← HEQ2.out]
              exact ⟨rfl, HA.out⟩
            · rw [if_neg h50] at HEQ2
              obtain ⟨d1, hd1⟩ : ∃ d1, d1 = Sort.swp dd i2 (i2 - 1) := ⟨_, rfl⟩
              rw [← hd1] at HEQ2
              go_wp2_with fail
              refine (HE.out.swapI HA.out.1 HA.out.2 i2 (i2 - 1) _ _ (by omega) (by omega) (by omega) (by omega)).mono ?_
              rw [← hd1]
              rintro _ w6 ⟨rfl, h6⟩
              have HA6 : Hid (At blk R W w6 d1) := (h6 : At blk R W w6 d1)
              clear h6 HA hd1
              have hne9 : ((i2 : Int) == (b : Int)) = false := by simp; omega
              have hfi9 : decide ((b : Int) - (a : Int) < 50) = false := by simp; omega
              by_cases hsh : i2 - a ≥ 2
              · rw [Sort.fixDown, if_pos hsh] at HEQ2
                have hsh9 : decide (2 ≤ (i2 : Int) - (a : Int)) = true := by simp; omega
                obtain ⟨d2, hd2⟩ : ∃ d2, d2 = Sort.shiftDown lt (i2 - 1) d1 := ⟨_, rfl⟩
                rw [← hd2] at HEQ2
                replace HEQ2 := hide HEQ2
                go_wp2
                go_loopw [9] (fun sv wx => ∃ (m : Nat) (x : Int), sv = .int .i64 x ∧ x = (m : Int) ∧ m ≤ i2 - 1 ∧ Hid (∃ de, At blk R W wx de ∧ Sort.shiftDown lt m de = Sort.shiftDown lt (i2 - 1) d1)) (fun sv _ => (intOf sv).toNat)
                case atStart => exact ⟨i2 - 1, _, rfl, by omega, Nat.le_refl _, (⟨_, HA6.out, rfl⟩ : ∃ de, At blk R W w6 de ∧ Sort.shiftDown lt (i2 - 1) de = Sort.shiftDown lt (i2 - 1) d1)⟩
                case round =>
                  obtain ⟨m, x, rfl, hx, hm1, HU⟩ := hrel
                  obtain ⟨de, hat, heq⟩ := HU.out
                  have HAE := hide hat
                  clear hat HU HA6
                  cases m with
                  | zero =>
                    obtain rfl : x = 0 := by omega
                    clear hx
                    obtain rfl : de = d2 := by rw [hd2, ← heq]; rfl
                    clear heq hd2
                    replace HEQ2 := HEQ2.out
                    by_cases hup : b - i2 ≥ 2
                    · rw [Sort.fixUp, if_pos hup] at HEQ2
                      have hup9 : decide (2 ≤ (b : Int) - (i2 : Int)) = true := by simp; omega
                      replace HEQ2 := hide HEQ2
                      go_wp2
                      go_loopw [10] (fun sv wx => ∃ m : Nat, sv = .int .i64 m ∧ i2 + 1 ≤ m ∧ m ≤ b ∧ Hid (∃ dg, At blk R W wx dg ∧ Sort.shiftUp lt b m dg = Sort.shiftUp lt b (i2 + 1) de)) (fun sv _ => b - (intOf sv).toNat)
                      case atStart => exact ⟨i2 + 1, by go_num, Nat.le_refl _, by omega, (⟨_, HAE.out, rfl⟩ : ∃ dg, At blk R W wr dg ∧ Sort.shiftUp lt b (i2 + 1) dg = Sort.shiftUp lt b (i2 + 1) de)⟩
                      case round =>
                        obtain ⟨m, rfl, hm1, hm2, HU⟩ := hrel
                        obtain ⟨dg, hat, heq⟩ := HU.out
                        have HAX := hide hat
                        clear hat HU HAE
                        by_cases hmb : m < b
                        · cases hl3 : lt dg[m]! dg[m - 1]! with
                          | true =>
                            rw [Sort.shiftUp, if_pos hmb, if_neg (by simp [hl3])] at heq
                            have HN := hide heq
                            clear heq
                            go_wp2_with fail
                            refine (HE.out.lessI HAX.out.1 HAX.out.2 m (m - 1) _ _ (by omega) (by omega) (by omega) (by omega) true hl3).mono ?_
                            rintro _ w7 ⟨rfl, h7⟩
                            have HA7 : Hid (At blk R W w7 dg) := (h7 : At blk R W w7 dg)
                            clear h7 HAX
                            go_wp2_with fail
                            refine (HE.out.swapI HA7.out.1 HA7.out.2 m (m - 1) _ _ (by omega) (by omega) (by omega) (by omega)).mono ?_
                            rintro _ w8 ⟨rfl, h8⟩
                            have HF : Hid (∃ dg, At blk R W w8 dg ∧ Sort.shiftUp lt b (m + 1) dg = Sort.shiftUp lt b (i2 + 1) de) := (⟨_, h8, HN.out⟩ : ∃ dg, At blk R W w8 dg ∧ Sort.shiftUp lt b (m + 1) dg = Sort.shiftUp lt b (i2 + 1) de)
                            clear h8 HA7
                            go_wp2
                            exact ⟨⟨m + 1, by go_num, by omega, by omega, HF⟩, by simp [intOf]; omega⟩
                          | false =>
                            rw [Sort.shiftUp, if_pos hmb, if_pos (by simp [hl3])] at heq
                            rw [← heq] at HEQ2
                            clear heq
                            go_wp2_with fail
                            refine (HE.out.lessI HAX.out.1 HAX.out.2 m (m - 1) _ _ (by omega) (by omega) (by omega) (by omega) false hl3).mono ?_
                            rintro _ w7 ⟨rfl, h7⟩
                            have HA7 : Hid (At blk R W w7 dg) := (h7 : At blk R W w7 dg)
                            clear h7 HAX
                            have HF : Hid (∃ dd, At blk R W w7 dd ∧ Sort.partialIns lt a b (5 - (t + 1)) i2 dd = Sort.partialInsertionSort lt d a b) := (⟨_, HA7.out, HEQ2.out⟩ : ∃ dd, At blk R W w7 dd ∧ Sort.partialIns lt a b (5 - (t + 1)) i2 dd = Sort.partialInsertionSort lt d a b)
                            go_wp2
                            exact ⟨⟨i2, t + 1, by go_num, by go_num, by omega, by omega, by omega, HF⟩, by simp [intOf]; omega⟩
                        · rw [Sort.shiftUp, if_neg hmb] at heq
                          rw [← heq] at HEQ2
                          clear heq
                          have HF : Hid (∃ dd, At blk R W wr dd ∧ Sort.partialIns lt a b (5 - (t + 1)) i2 dd = Sort.partialInsertionSort lt d a b) := (⟨_, HAX.out, HEQ2.out⟩ : ∃ dd, At blk R W wr dd ∧ Sort.partialIns lt a b (5 - (t + 1)) i2 dd = Sort.partialInsertionSort lt d a b)
                          go_wp2
                          exact ⟨⟨i2, t + 1, by go_num, by go_num, by omega, by omega, by omega, HF⟩, by simp [intOf]; omega⟩
                    · rw [Sort.fixUp, if_neg hup] at HEQ2
                      have hup9 : decide (2 ≤ (b : Int) - (i2 : Int)) = false := by simp; omega
                      replace HEQ2 := hide HEQ2
                      have HF : Hid (∃ dd, At blk R W wr dd ∧ Sort.partialIns lt a b (5 - (t + 1)) i2 dd = Sort.partialInsertionSort lt d a b) := (⟨_, HAE.out, HEQ2.out⟩ : ∃ dd, At blk R W wr dd ∧ Sort.partialIns lt a b (5 - (t + 1)) i2 dd = Sort.partialInsertionSort lt d a b)
                      go_wp2
                      exact ⟨⟨i2, t + 1, by go_num, by go_num, by omega, by omega, by omega, HF⟩, by simp [intOf]; omega⟩
                  | succ k =>
                    cases hl4 : lt de[k + 1]! de[k]! with
                    | true =>
                      rw [Sort.shiftDown, if_neg (by simp [hl4])] at heq
                      have HN := hide heq
                      clear heq
                      go_wp2_with fail
                      refine (HE.out.lessI HAE.out.1 HAE.out.2 (k + 1) k _ _ (by omega) (by omega) (by omega) (by omega) true hl4).mono ?_
                      rintro _ w7 ⟨rfl, h7⟩
                      have HA7 : Hid (At blk R W w7 de) := (h7 : At blk R W w7 de)
                      clear h7 HAE
                      go_wp2_with fail
                      refine (HE.out.swapI HA7.out.1 HA7.out.2 (k + 1) k _ _ (by omega) (by omega) (by omega) (by omega)).mono ?_
                      rintro _ w8 ⟨rfl, h8⟩
                      have HF : Hid (∃ de, At blk R W w8 de ∧ Sort.shiftDown lt k de = Sort.shiftDown lt (i2 - 1) d1) := (⟨_, h8, HN.out⟩ : ∃ de, At blk R W w8 de ∧ Sort.shiftDown lt k de = Sort.shiftDown lt (i2 - 1) d1)
                      clear h8 HA7
                      go_wp2
                      exact ⟨⟨k, _, by go_num, by omega, by omega, HF⟩, by simp [intOf]; omega⟩
                    | false =>
                      rw [Sort.shiftDown, if_pos (by simp [hl4])] at heq
                      obtain rfl : de = d2 := by rw [hd2, ← heq]
                      clear heq hd2
                      go_wp2_with fail
                      refine (HE.out.lessI HAE.out.1 HAE.out.2 (k + 1) k _ _ (by omega) (by omega) (by omega) (by omega) false hl4).mono ?_
                      rintro _ w7 ⟨rfl, h7⟩
                      have HA7 : Hid (At blk R W w7 de) := (h7 : At blk R W w7 de)
                      clear h7 HAE
                      replace HEQ2 := HEQ2.out
                      by_cases hup : b - i2 ≥ 2
                      · rw [Sort.fixUp, if_pos hup] at HEQ2
                        have hup9 : decide (2 ≤ (b : Int) - (i2 : Int)) = true := by simp; omega
                        replace HEQ2 := hide HEQ2
                        go_wp2
                        go_loopw [10] (fun sv wx => ∃ m : Nat, sv = .int .i64 m ∧ i2 + 1 ≤ m ∧ m ≤ b ∧ Hid (∃ dg, At blk R W wx dg ∧ Sort.shiftUp lt b m dg = Sort.shiftUp lt b (i2 + 1) de)) (fun sv _ => b - (intOf sv).toNat)
                        case atStart => exact ⟨i2 + 1, by go_num, Nat.le_refl _, by omega, (⟨_, HA7.out, rfl⟩ : ∃ dg, At blk R W w7 dg ∧ Sort.shiftUp lt b (i2 + 1) dg = Sort.shiftUp lt b (i2 + 1) de)⟩
                        case round =>
                          obtain ⟨m, rfl, hm1, hm2, HU⟩ := hrel
                          obtain ⟨dg, hat, heq⟩ := HU.out
                          have HAX := hide hat
                          clear hat HU HA7
                          by_cases hmb : m < b
                          · cases hl3 : lt dg[m]! dg[m - 1]! with
                            | true =>
                              rw [Sort.shiftUp, if_pos hmb, if_neg (by simp [hl3])] at heq
                              have HN := hide heq
                              clear heq
                              go_wp2_with fail
                              refine (HE.out.lessI HAX.out.1 HAX.out.2 m (m - 1) _ _ (by omega) (by omega) (by omega) (by omega) true hl3).mono ?_
                              rintro _ w7 ⟨rfl, h7⟩
                              have HA7 : Hid (At blk R W w7 dg) := (h7 : At blk R W w7 dg)
                              clear h7 HAX
                              go_wp2_with fail
                              refine (HE.out.swapI HA7.out.1 HA7.out.2 m (m - 1) _ _ (by omega) (by omega) (by omega) (by omega)).mono ?_
                              rintro _ w8 ⟨rfl, h8⟩
                              have HF : Hid (∃ dg, At blk R W w8 dg ∧ Sort.shiftUp lt b (m + 1) dg = Sort.shiftUp lt b (i2 + 1) de) := (⟨_, h8, HN.out⟩ : ∃ dg, At blk R W w8 dg ∧ Sort.shiftUp lt b (m + 1) dg = Sort.shiftUp lt b (i2 + 1) de)
                              clear h8 HA7
                              go_wp2
                              exact ⟨⟨m + 1, by go_num, by omega, by omega, HF⟩, by simp [intOf]; omega⟩
                            | false =>
                              rw [Sort.shiftUp, if_pos hmb, if_pos (by simp [hl3])] at heq
                              rw [← heq] at HEQ2
                              clear heq
                              go_wp2_with fail
                              refine (HE.out.lessI HAX.out.1 HAX.out.2 m (m - 1) _ _ (by omega) (by omega) (by omega) (by omega) false hl3).mono ?_
                              rintro _ w7 ⟨rfl, h7⟩
                              have HA7 : Hid (At blk R W w7 dg) := (h7 : At blk R W w7 dg)
                              clear h7 HAX
                              have HF : Hid (∃ dd, At blk R W w7 dd ∧ Sort.partialIns lt a b (5 - (t + 1)) i2 dd = Sort.partialInsertionSort lt d a b) := (⟨_, HA7.out, HEQ2.out⟩ : ∃ dd, At blk R W w7 dd ∧ Sort.partialIns lt a b (5 - (t + 1)) i2 dd = Sort.partialInsertionSort lt d a b)
                              go_wp2
                              exact ⟨⟨i2, t + 1, by go_num, by go_num, by omega, by omega, by omega, HF⟩, by simp [intOf]; omega⟩
                          · rw [Sort.shiftUp, if_neg hmb] at heq
                            rw [← heq] at HEQ2
                            clear heq
                            have HF : Hid (∃ dd, At blk R W wr dd ∧ Sort.partialIns lt a b (5 - (t + 1)) i2 dd = Sort.partialInsertionSort lt d a b) := (⟨_, HAX.out, HEQ2.out⟩ : ∃ dd, At blk R W wr dd ∧ Sort.partialIns lt a b (5 - (t + 1)) i2 dd = Sort.partialInsertionSort lt d a b)
                            go_wp2
                            exact ⟨⟨i2, t + 1, by go_num, by go_num, by omega, by omega, by omega, HF⟩, by simp [intOf]; omega⟩
                      · rw [Sort.fixUp, if_neg hup] at HEQ2
                        have hup9 : decide (2 ≤ (b : Int) - (i2 : Int)) = false := by simp; omega
                        replace HEQ2 := hide HEQ2
                        have HF : Hid (∃ dd, At blk R W w7 dd ∧ Sort.partialIns lt a b (5 - (t + 1)) i2 dd = Sort.partialInsertionSort lt d a b) := (⟨_, HA7.out, HEQ2.out⟩ : ∃ dd, At blk R W w7 dd ∧ Sort.partialIns lt a b (5 - (t + 1)) i2 dd = Sort.partialInsertionSort lt d a b)
                        go_wp2
                        exact ⟨⟨i2, t + 1, by go_num, by go_num, by omega, by omega, by omega, HF⟩, by simp [intOf]; omega⟩
              · rw [Sort.fixDown, if_neg hsh] at HEQ2
                have hsh9 : decide (2 ≤ (i2 : Int) - (a : Int)) = false := by simp; omega
                by_cases hup : b - i2 ≥ 2
                · rw [Sort.fixUp, if_pos hup] at HEQ2
                  have hup9 : decide (2 ≤ (b : Int) - (i2 : Int)) = true := by simp; omega
                  replace HEQ2 := hide HEQ2
                  go_wp2
                  go_loopw [10] (fun sv wx => ∃ m : Nat, sv = .int .i64 m ∧ i2 + 1 ≤ m ∧ m ≤ b ∧ Hid (∃ dg, At blk R W wx dg ∧ Sort.shiftUp lt b m dg = Sort.shiftUp lt b (i2 + 1) d1)) (fun sv _ => b - (intOf sv).toNat)
                  case atStart => exact ⟨i2 + 1, by go_num, Nat.le_refl _, by omega, (⟨_, HA6.out, rfl⟩ : ∃ dg, At blk R W w6 dg ∧ Sort.shiftUp lt b (i2 + 1) dg = Sort.shiftUp lt b (i2 + 1) d1)⟩
                  case round =>
                    obtain ⟨m, rfl, hm1, hm2, HU⟩ := hrel
                    obtain ⟨dg, hat, heq⟩ := HU.out
                    have HAX := hide hat
                    clear hat HU HA6
                    by_cases hmb : m < b
                    · cases hl3 : lt dg[m]! dg[m - 1]! with
                      | true =>
                        rw [Sort.shiftUp, if_pos hmb, if_neg (by simp [hl3])] at heq
                        have HN := hide heq
                        clear heq
                        go_wp2_with fail
                        refine (HE.out.lessI HAX.out.1 HAX.out.2 m (m - 1) _ _ (by omega) (by omega) (by omega) (by omega) true hl3).mono ?_
                        rintro _ w7 ⟨rfl, h7⟩
                        have HA7 : Hid (At blk R W w7 dg) := (h7 : At blk R W w7 dg)
                        clear h7 HAX
                        go_wp2_with fail
                        refine (HE.out.swapI HA7.out.1 HA7.out.2 m (m - 1) _ _ (by omega) (by omega) (by omega) (by omega)).mono ?_
                        rintro _ w8 ⟨rfl, h8⟩
                        have HF : Hid (∃ dg, At blk R W w8 dg ∧ Sort.shiftUp lt b (m + 1) dg = Sort.shiftUp lt b (i2 + 1) d1) := (⟨_, h8, HN.out⟩ : ∃ dg, At blk R W w8 dg ∧ Sort.shiftUp lt b (m + 1) dg = Sort.shiftUp lt b (i2 + 1) d1)
                        clear h8 HA7
                        go_wp2
                        exact ⟨⟨m + 1, by go_num, by omega, by omega, HF⟩, by simp [intOf]; omega⟩
                      | false =>
                        rw [Sort.shiftUp, if_pos hmb, if_pos (by simp [hl3])] at heq
                        rw [← heq] at HEQ2
                        clear heq
                        go_wp2_with fail
                        refine (HE.out.lessI HAX.out.1 HAX.out.2 m (m - 1) _ _ (by omega) (by omega) (by omega) (by omega) false hl3).mono ?_
                        rintro _ w7 ⟨rfl, h7⟩
                        have HA7 : Hid (At blk R W w7 dg) := (h7 : At blk R W w7 dg)
                        clear h7 HAX
                        have HF : Hid (∃ dd, At blk R W w7 dd ∧ Sort.partialIns lt a b (5 - (t + 1)) i2 dd = Sort.partialInsertionSort lt d a b) := (⟨_, HA7.out, HEQ2.out⟩ : ∃ dd, At blk R W w7 dd ∧ Sort.partialIns lt a b (5 - (t + 1)) i2 dd = Sort.partialInsertionSort lt d a b)
                        go_wp2
                        exact ⟨⟨i2, t + 1, by go_num, by go_num, by omega, by omega, by omega, HF⟩, by simp [intOf]; omega⟩
                    · rw [Sort.shiftUp, if_neg hmb] at heq
                      rw [← heq] at HEQ2
                      clear heq
                      have HF : Hid (∃ dd, At blk R W wr dd ∧ Sort.partialIns lt a b (5 - (t + 1)) i2 dd = Sort.partialInsertionSort lt d a b) := (⟨_, HAX.out, HEQ2.out⟩ : ∃ dd, At blk R W wr dd ∧ Sort.partialIns lt a b (5 - (t + 1)) i2 dd = Sort.partialInsertionSort lt d a b)
                      go_wp2
                      exact ⟨⟨i2, t + 1, by go_num, by go_num, by omega, by omega, by omega, HF⟩, by simp [intOf]; omega⟩
                · rw [Sort.fixUp, if_neg hup] at HEQ2
                  have hup9 : decide (2 ≤ (b : Int) - (i2 : Int)) = false := by simp; omega
                  replace HEQ2 := hide HEQ2
                  have HF : Hid (∃ dd, At blk R W w6 dd ∧ Sort.partialIns lt a b (5 - (t + 1)) i2 dd = Sort.partialInsertionSort lt d a b) := (⟨_, HA6.out, HEQ2.out⟩ : ∃ dd, At blk R W w6 dd ∧ Sort.partialIns lt a b (5 - (t + 1)) i2 dd = Sort.partialInsertionSort lt d a b)
                  go_wp2
                  exact ⟨⟨i2, t + 1, by go_num, by go_num, by omega, by omega, by omega, HF⟩, by simp [intOf]; omega⟩
        · have HS1 : Hid (Sort.scanSorted lt dd b i = b) := by
            have h1 := HU.out.2
            rw [Sort.scanSorted, if_neg (by simp only [Bool.and_eq_true, decide_eq_true_eq]; omega)] at h1
            have h2 : i2 = b := Nat.le_antisymm hi2 (Nat.le_of_not_lt hlt)
            exact h1.symm.trans h2
          obtain rfl : i2 = b := Nat.le_antisymm hi2 (Nat.le_of_not_lt hlt)
          have HEQ2 := HEQ.out
          rw [HS1.out, if_pos rfl] at HEQ2
          replace HEQ2 := hide HEQ2
          have HA : Hid (At blk R W wr dd) := HU.out.1
          clear HU HEQ
          go_wp2
          go_ret
          rw [← HEQ2.out]
          exact ⟨rfl, HA.out⟩
    · obtain rfl : t = 5 := by omega
      rw [show 5 - 5 = 0 from rfl, Sort.partialIns] at heq
      have HEQ2 := hide heq
      clear hat heq
      go_wp2
      go_ret
      rw [← HEQ2.out]
      exact ⟨rfl, HAT.out⟩
end
end Go.Proofs.Ytaihafoopoaahaa
