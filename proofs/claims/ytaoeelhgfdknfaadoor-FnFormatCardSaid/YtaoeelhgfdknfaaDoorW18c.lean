/- A part of spec.Parse: metadata found, pre-release none. Printed by gen_w17.py. -/
import Derived.Test.YtaoeelhgfdknfaaDoorW17
namespace Go.Proofs.YtaoeelhgfdknfaaDoor
open Go.RowKit

attribute [local go_sem] S_size S_toList E_toList S_extract

set_option linter.unusedVariables false in
set_option linter.unusedSimpArgs false in
set_option maxHeartbeats 2000000 in
set_option maxRecDepth 100000 in
theorem spec_TF_A (s : Bs) (w : World) (hl : s.length ≤ 8589934400) (c : UInt8) (hc : s[0]? = some c) (h118 : ¬ c = 118) (h86 : ¬ c = 86) (S1 MET : Bs) (k1 : Nat) (hk1 : fst 43 s = k1) (hlt1 : k1 < s.length) (hb1 : bef 43 s = S1) (ha1 : aft 43 s = MET) (hi1 : identsB MET = false) : Calls Tryd.prog 12 #[.string (S s)] w (SpecOut s w) := by
  have hle : s.isEmpty = false := by cases s with | nil => cases hc | cons _ _ => rfl
  have hix : ∀ W : World, (Instr.index 9 (.string (S s)) (.int .i64 0)).run Tryd.prog W = .ok (.int .u8 (c.toNat : Int)) W := index_S (l := s) (k := 0) hc
  have hlen : 0 < s.length := by cases s with | nil => cases hc | cons _ _ => simp
  have n1 : ((c.toNat : Int) == 118) = false := beq_eq_false_iff_ne.2 (fun e => h118 (UInt8.toNat_inj.1 (by have : (118 : UInt8).toNat = 118 := rfl; omega)))
  have n2 : ((c.toNat : Int) == 86) = false := beq_eq_false_iff_ne.2 (fun e => h86 (UInt8.toNat_inj.1 (by have : (86 : UInt8).toNat = 86 := rfl; omega)))
  have m1 : ¬ (c.toNat : Int) = 118 := by simpa using n1
  have m2 : ¬ (c.toNat : Int) = 86 := by simpa using n2
  have hv0 : ¬ (s.head? = some 118 ∨ s.head? = some 86) := by cases s with | nil => cases hc | cons d _ => (simp at hc ⊢; subst hc; exact ⟨h118, h86⟩)
  have hf1 : fnd 43 s = true := by unfold fnd; rw [hk1]; exact decide_eq_true hlt1
  have hsb1 := slice_bef hk1 hb1
  have hsa1 := slice_aft hk1 hlt1 ha1
  have hw1 : IntKind.i64.wrap ((k1 : Int) + 1) = (k1 : Int) + 1 := by rw [IntKind.wrap_i64]; omega
  have hl1 : S1.length ≤ s.length := by have := bef_len 43 s; rw [hb1] at this; exact this
  have hlm : MET.length ≤ s.length := by have := aft_len 43 s; rw [ha1] at this; exact this
  have hp := specP_A hv0 (by rw [hf1, ha1, hi1]; rfl)
  rw [ha1] at hp
  have HP := hide hp
  clear hp
  try clear hb1 ha1 hf1
  clear h118 h86 hc
  clear hv0
  have hk0 := Two.start w
  go_enter Tryd.func12, Tryd.ntmps12
  go_wp2_with fail
  generalize (w.alloc (.cells #[.int .i64 0, .int .i64 0, .int .i64 0, .string ⟨#[]⟩, .string ⟨#[]⟩] 26)).alloc (.cells #[.int .i64 0, .int .i64 0, .int .i64 0, .string ⟨#[]⟩, .string ⟨#[]⟩] 26) = W0 at *
  generalize w.heap.size + 1 = g at *
  have hgn := Nat.ne_of_lt hk0.2.2.2
  have hgm := hgn.symm
  have KW0 := hide hk0
  clear hk0
  obtain ⟨aW00, aW01, aW02, aW03, aW04⟩ := cells5 KW0.out.2.1
  have gW00 := KW0.out.2.1.frozen 0
  have gW01 := KW0.out.2.1.frozen 1
  have gW02 := KW0.out.2.1.frozen 2
  have gW03 := KW0.out.2.1.frozen 3
  have gW04 := KW0.out.2.1.frozen 4
  go_wp2_with fail
  refine (at_any 43 43 rfl s _ (by omega)).mono ?_
  rintro e w1 ⟨rfl, hw⟩
  have hb := below_of_eq hw
  clear hw
  have Kw1 : Hid (Two w w1 g #[.int .i64 0, .int .i64 0, .int .i64 0, .string ⟨#[]⟩, .string ⟨#[]⟩]) := Two.below KW0.out hb
  clear aW00 gW00 aW01 gW01 aW02 gW02 aW03 gW03 aW04 gW04 hb
  obtain ⟨aw10, aw11, aw12, aw13, aw14⟩ := cells5 Kw1.out.2.1
  have gw10 := Kw1.out.2.1.frozen 0
  have gw11 := Kw1.out.2.1.frozen 1
  have gw12 := Kw1.out.2.1.frozen 2
  have gw13 := Kw1.out.2.1.frozen 3
  have gw14 := Kw1.out.2.1.frozen 4
  rw [hk1]
  go_wp2
  go_region_held3 (fun w' => True) (trivial) (fail)
  go_wp2_with fail
  refine (identifiers_any MET _ (by omega)).mono ?_
  rintro e w2 ⟨rfl, hb⟩
  have Kw2 : Hid (Two w w2 g #[.int .i64 0, .int .i64 0, .int .i64 0, .string ⟨#[]⟩, .string (S MET)]) := Two.below (Two.drew (Two.put Kw1.out 4 (.string (S MET)))) hb
  clear aw10 gw10 aw11 gw11 aw12 gw12 aw13 gw13 aw14 gw14 hb
  obtain ⟨aw20, aw21, aw22, aw23, aw24⟩ := cells5 Kw2.out.2.1
  have gw20 := Kw2.out.2.1.frozen 0
  have gw21 := Kw2.out.2.1.frozen 1
  have gw22 := Kw2.out.2.1.frozen 2
  have gw23 := Kw2.out.2.1.frozen 3
  have gw24 := Kw2.out.2.1.frozen 4
  rw [hi1]
  have hfv := five (x0 := .int .i64 0) (x1 := .int .i64 0) (x2 := .int .i64 0) (x3 := .string ⟨#[]⟩) (x4 := .string (S MET)) Kw2.out.1 Kw2.out.2.2.1
  have f0 := Kw2.out.1.frozen 0
  have f1 := Kw2.out.1.frozen 1
  have f2 := Kw2.out.1.frozen 2
  have f3 := Kw2.out.1.frozen 3
  have f4 := Kw2.out.1.frozen 4
  obtain ⟨u0, u1, u2, u3, u4⟩ := cells5 Kw2.out.1
  obtain ⟨v0, v1, v2, v3, v4⟩ := cells5 hfv.1
  have HF := hide hfv.2
  clear hfv
  go_wp2
  refine bodyPost_ret (v := .tuple #[.agg #[.int .i64 0, .int .i64 0, .int .i64 0, .string ⟨#[]⟩, .string (S MET)], .int .i64 0]) ?_ rfl ?_
  · simp only [results, Tryd.f12]
    simp [go_sem, v0, v1, v2, v3, v4]
  · exact spec_is HP.out (v := ⟨0, 0, 0, [], MET⟩) rfl HF.out

set_option linter.unusedVariables false in
set_option linter.unusedSimpArgs false in
set_option maxHeartbeats 2000000 in
set_option maxRecDepth 100000 in
theorem spec_TF_D (s : Bs) (w : World) (hl : s.length ≤ 8589934400) (c : UInt8) (hc : s[0]? = some c) (h118 : ¬ c = 118) (h86 : ¬ c = 86) (S1 MET : Bs) (k1 : Nat) (hk1 : fst 43 s = k1) (hlt1 : k1 < s.length) (hb1 : bef 43 s = S1) (ha1 : aft 43 s = MET) (hi1 : identsB MET = true) (hk2 : fst 45 S1 = S1.length) (hb2 : bef 45 S1 = S1) (ha2 : aft 45 S1 = []) (had : (dots S1).all digitsB = false) : Calls Tryd.prog 12 #[.string (S s)] w (SpecOut s w) := by
  have hle : s.isEmpty = false := by cases s with | nil => cases hc | cons _ _ => rfl
  have hix : ∀ W : World, (Instr.index 9 (.string (S s)) (.int .i64 0)).run Tryd.prog W = .ok (.int .u8 (c.toNat : Int)) W := index_S (l := s) (k := 0) hc
  have hlen : 0 < s.length := by cases s with | nil => cases hc | cons _ _ => simp
  have n1 : ((c.toNat : Int) == 118) = false := beq_eq_false_iff_ne.2 (fun e => h118 (UInt8.toNat_inj.1 (by have : (118 : UInt8).toNat = 118 := rfl; omega)))
  have n2 : ((c.toNat : Int) == 86) = false := beq_eq_false_iff_ne.2 (fun e => h86 (UInt8.toNat_inj.1 (by have : (86 : UInt8).toNat = 86 := rfl; omega)))
  have m1 : ¬ (c.toNat : Int) = 118 := by simpa using n1
  have m2 : ¬ (c.toNat : Int) = 86 := by simpa using n2
  have hv0 : ¬ (s.head? = some 118 ∨ s.head? = some 86) := by cases s with | nil => cases hc | cons d _ => (simp at hc ⊢; subst hc; exact ⟨h118, h86⟩)
  have hf1 : fnd 43 s = true := by unfold fnd; rw [hk1]; exact decide_eq_true hlt1
  have hsb1 := slice_bef hk1 hb1
  have hsa1 := slice_aft hk1 hlt1 ha1
  have hw1 : IntKind.i64.wrap ((k1 : Int) + 1) = (k1 : Int) + 1 := by rw [IntKind.wrap_i64]; omega
  have hl1 : S1.length ≤ s.length := by have := bef_len 43 s; rw [hb1] at this; exact this
  have hlm : MET.length ≤ s.length := by have := aft_len 43 s; rw [ha1] at this; exact this
  have hf2 : fnd 45 S1 = false := by unfold fnd; rw [hk2]; exact decide_eq_false (Nat.lt_irrefl _)
  have hl2 : S1.length ≤ S1.length := Nat.le_refl _
  have hp := specP_D hv0 (by rw [hf1, ha1, hi1]; rfl) (by rw [hb1, hf2]; rfl) (by rw [hb1, hb2]; exact had)
  rw [hb1, ha1, ha2] at hp
  have HP := hide hp
  clear hp
  try clear hb1 ha1 hf1
  clear h118 h86 hc
  clear hv0
  try clear hb2 ha2 hf2
  have hk0 := Two.start w
  go_enter Tryd.func12, Tryd.ntmps12
  go_wp2_with fail
  generalize (w.alloc (.cells #[.int .i64 0, .int .i64 0, .int .i64 0, .string ⟨#[]⟩, .string ⟨#[]⟩] 26)).alloc (.cells #[.int .i64 0, .int .i64 0, .int .i64 0, .string ⟨#[]⟩, .string ⟨#[]⟩] 26) = W0 at *
  generalize w.heap.size + 1 = g at *
  have hgn := Nat.ne_of_lt hk0.2.2.2
  have hgm := hgn.symm
  have KW0 := hide hk0
  clear hk0
  obtain ⟨aW00, aW01, aW02, aW03, aW04⟩ := cells5 KW0.out.2.1
  have gW00 := KW0.out.2.1.frozen 0
  have gW01 := KW0.out.2.1.frozen 1
  have gW02 := KW0.out.2.1.frozen 2
  have gW03 := KW0.out.2.1.frozen 3
  have gW04 := KW0.out.2.1.frozen 4
  go_wp2_with fail
  refine (at_any 43 43 rfl s _ (by omega)).mono ?_
  rintro e w1 ⟨rfl, hw⟩
  have hb := below_of_eq hw
  clear hw
  have Kw1 : Hid (Two w w1 g #[.int .i64 0, .int .i64 0, .int .i64 0, .string ⟨#[]⟩, .string ⟨#[]⟩]) := Two.below KW0.out hb
  clear aW00 gW00 aW01 gW01 aW02 gW02 aW03 gW03 aW04 gW04 hb
  obtain ⟨aw10, aw11, aw12, aw13, aw14⟩ := cells5 Kw1.out.2.1
  have gw10 := Kw1.out.2.1.frozen 0
  have gw11 := Kw1.out.2.1.frozen 1
  have gw12 := Kw1.out.2.1.frozen 2
  have gw13 := Kw1.out.2.1.frozen 3
  have gw14 := Kw1.out.2.1.frozen 4
  rw [hk1]
  go_wp2
  go_region_held3 (fun w' => True) (trivial) (fail)
  go_wp2_with fail
  refine (identifiers_any MET _ (by omega)).mono ?_
  rintro e w2 ⟨rfl, hb⟩
  have Kw2 : Hid (Two w w2 g #[.int .i64 0, .int .i64 0, .int .i64 0, .string ⟨#[]⟩, .string (S MET)]) := Two.below (Two.drew (Two.put Kw1.out 4 (.string (S MET)))) hb
  clear aw10 gw10 aw11 gw11 aw12 gw12 aw13 gw13 aw14 gw14 hb
  obtain ⟨aw20, aw21, aw22, aw23, aw24⟩ := cells5 Kw2.out.2.1
  have gw20 := Kw2.out.2.1.frozen 0
  have gw21 := Kw2.out.2.1.frozen 1
  have gw22 := Kw2.out.2.1.frozen 2
  have gw23 := Kw2.out.2.1.frozen 3
  have gw24 := Kw2.out.2.1.frozen 4
  rw [hi1]
  go_wp2_with fail
  refine (at_any 45 45 rfl S1 _ (by omega)).mono ?_
  rintro e w3 ⟨rfl, hw⟩
  have hb := below_of_eq hw
  clear hw
  have Kw3 : Hid (Two w w3 g #[.int .i64 0, .int .i64 0, .int .i64 0, .string ⟨#[]⟩, .string (S MET)]) := Two.below Kw2.out hb
  clear aw20 gw20 aw21 gw21 aw22 gw22 aw23 gw23 aw24 gw24 hb
  obtain ⟨aw30, aw31, aw32, aw33, aw34⟩ := cells5 Kw3.out.2.1
  have gw30 := Kw3.out.2.1.frozen 0
  have gw31 := Kw3.out.2.1.frozen 1
  have gw32 := Kw3.out.2.1.frozen 2
  have gw33 := Kw3.out.2.1.frozen 3
  have gw34 := Kw3.out.2.1.frozen 4
  rw [hk2]
  go_wp2_with fail
  refine (split_any S1 _ (by omega)).mono ?_
  rintro e w5 ⟨A, cc, rfl, hr, _, _, hb⟩
  have HR := hide hr
  clear hr
  have hnl := dots_length S1
  have HMEM := hide (dots_mem S1)
  have HAD := hide had
  clear had
  obtain ⟨n, hn⟩ : ∃ n, n = (dots S1).length := ⟨_, rfl⟩
  rw [← hn] at HR hnl ⊢
  have HN := hide hn
  clear hn
  have Kw5 : Hid (Two w w5 g #[.int .i64 0, .int .i64 0, .int .i64 0, .string ⟨#[]⟩, .string (S MET)]) := Two.below Kw3.out hb
  clear aw30 gw30 aw31 gw31 aw32 gw32 aw33 gw33 aw34 gw34 hb
  obtain ⟨aw50, aw51, aw52, aw53, aw54⟩ := cells5 Kw5.out.2.1
  have gw50 := Kw5.out.2.1.frozen 0
  have gw51 := Kw5.out.2.1.frozen 1
  have gw52 := Kw5.out.2.1.frozen 2
  have gw53 := Kw5.out.2.1.frozen 3
  have gw54 := Kw5.out.2.1.frozen 4
  go_wp2
  go_loopw [65] (fun i wr => ∃ j : Nat, j ≤ n ∧ i = .int .i64 j ∧ wr = w5 ∧ Hid (((dots S1).take j).all digitsB = true)) (fun i _ => n - (intOf i).toNat)
  case atStart => exact ⟨0, Nat.zero_le _, rfl, rfl, rfl⟩
  case round =>
    obtain ⟨j, hj, rfl, hwr, HA⟩ := hrel
    subst hwr
    by_cases hlt : j < n
    · obtain ⟨ad, u, rfl, _, hx, hcx⟩ := HR.out.at_ hlt
      obtain ⟨x, hxx, rfl⟩ := strs_at hx
      have hxl := (HMEM.out x (mem_at hxx)).2
      have HX := hide hxx
      clear hx hxx
      cases hd : digitsB x
      · go_wp2_with fail
        refine (digits_any x _ (by omega)).mono ?_
        rintro e w6 ⟨rfl, rfl⟩
        rw [hd]
        clear hd
        have hfv := five (x0 := .int .i64 0) (x1 := .int .i64 0) (x2 := .int .i64 0) (x3 := .string ⟨#[]⟩) (x4 := .string (S MET)) Kw5.out.1 Kw5.out.2.2.1
        have f0 := Kw5.out.1.frozen 0
        have f1 := Kw5.out.1.frozen 1
        have f2 := Kw5.out.1.frozen 2
        have f3 := Kw5.out.1.frozen 3
        have f4 := Kw5.out.1.frozen 4
        obtain ⟨u0, u1, u2, u3, u4⟩ := cells5 Kw5.out.1
        obtain ⟨v0, v1, v2, v3, v4⟩ := cells5 hfv.1
        have HF := hide hfv.2
        clear hfv
        go_wp2
        refine bodyPost_ret (v := .tuple #[.agg #[.int .i64 0, .int .i64 0, .int .i64 0, .string ⟨#[]⟩, .string (S MET)], .int .i64 0]) ?_ rfl ?_
        · simp only [results, Tryd.f12]
          simp [go_sem, v0, v1, v2, v3, v4]
        · exact spec_is HP.out (v := ⟨0, 0, 0, [], MET⟩) rfl HF.out

      · go_wp2_with fail
        refine (digits_any x _ (by omega)).mono ?_
        rintro e w6 ⟨rfl, rfl⟩
        rw [hd]
        have HD := hide hd
        clear hd
        go_wp2
        go_roundw
        case measure => simp [intOf]; omega
        case rel =>
          refine ⟨j + 1, by omega, by go_num, trivial, ?_⟩
          show _ = _
          rw [take_succ HX.out, List.all_append, HA.out]
          simp [HD.out]
    · obtain rfl : j = n := by omega
      exfalso
      have h1 := HA.out
      rw [HN.out, List.take_length, HAD.out] at h1
      cases h1


set_option linter.unusedVariables false in
set_option linter.unusedSimpArgs false in
set_option maxHeartbeats 2000000 in
set_option maxRecDepth 100000 in
theorem spec_TF_E (s : Bs) (w : World) (hl : s.length ≤ 8589934400) (c : UInt8) (hc : s[0]? = some c) (h118 : ¬ c = 118) (h86 : ¬ c = 86) (S1 MET : Bs) (k1 : Nat) (hk1 : fst 43 s = k1) (hlt1 : k1 < s.length) (hb1 : bef 43 s = S1) (ha1 : aft 43 s = MET) (hi1 : identsB MET = true) (hk2 : fst 45 S1 = S1.length) (hb2 : bef 45 S1 = S1) (ha2 : aft 45 S1 = []) (had : (dots S1).all digitsB = true) (hne : ¬ (dots S1).length = 3) : Calls Tryd.prog 12 #[.string (S s)] w (SpecOut s w) := by
  have hle : s.isEmpty = false := by cases s with | nil => cases hc | cons _ _ => rfl
  have hix : ∀ W : World, (Instr.index 9 (.string (S s)) (.int .i64 0)).run Tryd.prog W = .ok (.int .u8 (c.toNat : Int)) W := index_S (l := s) (k := 0) hc
  have hlen : 0 < s.length := by cases s with | nil => cases hc | cons _ _ => simp
  have n1 : ((c.toNat : Int) == 118) = false := beq_eq_false_iff_ne.2 (fun e => h118 (UInt8.toNat_inj.1 (by have : (118 : UInt8).toNat = 118 := rfl; omega)))
  have n2 : ((c.toNat : Int) == 86) = false := beq_eq_false_iff_ne.2 (fun e => h86 (UInt8.toNat_inj.1 (by have : (86 : UInt8).toNat = 86 := rfl; omega)))
  have m1 : ¬ (c.toNat : Int) = 118 := by simpa using n1
  have m2 : ¬ (c.toNat : Int) = 86 := by simpa using n2
  have hv0 : ¬ (s.head? = some 118 ∨ s.head? = some 86) := by cases s with | nil => cases hc | cons d _ => (simp at hc ⊢; subst hc; exact ⟨h118, h86⟩)
  have hf1 : fnd 43 s = true := by unfold fnd; rw [hk1]; exact decide_eq_true hlt1
  have hsb1 := slice_bef hk1 hb1
  have hsa1 := slice_aft hk1 hlt1 ha1
  have hw1 : IntKind.i64.wrap ((k1 : Int) + 1) = (k1 : Int) + 1 := by rw [IntKind.wrap_i64]; omega
  have hl1 : S1.length ≤ s.length := by have := bef_len 43 s; rw [hb1] at this; exact this
  have hlm : MET.length ≤ s.length := by have := aft_len 43 s; rw [ha1] at this; exact this
  have hf2 : fnd 45 S1 = false := by unfold fnd; rw [hk2]; exact decide_eq_false (Nat.lt_irrefl _)
  have hl2 : S1.length ≤ S1.length := Nat.le_refl _
  have hp := specP_E hv0 (by rw [hf1, ha1, hi1]; rfl) (by rw [hb1, hf2]; rfl) (by rw [hb1, hb2]; exact had) (by rw [hb1, hb2]; exact hne)
  rw [hb1, ha1, ha2] at hp
  have HP := hide hp
  clear hp
  try clear hb1 ha1 hf1
  clear h118 h86 hc
  clear hv0
  try clear hb2 ha2 hf2
  have hk0 := Two.start w
  go_enter Tryd.func12, Tryd.ntmps12
  go_wp2_with fail
  generalize (w.alloc (.cells #[.int .i64 0, .int .i64 0, .int .i64 0, .string ⟨#[]⟩, .string ⟨#[]⟩] 26)).alloc (.cells #[.int .i64 0, .int .i64 0, .int .i64 0, .string ⟨#[]⟩, .string ⟨#[]⟩] 26) = W0 at *
  generalize w.heap.size + 1 = g at *
  have hgn := Nat.ne_of_lt hk0.2.2.2
  have hgm := hgn.symm
  have KW0 := hide hk0
  clear hk0
  obtain ⟨aW00, aW01, aW02, aW03, aW04⟩ := cells5 KW0.out.2.1
  have gW00 := KW0.out.2.1.frozen 0
  have gW01 := KW0.out.2.1.frozen 1
  have gW02 := KW0.out.2.1.frozen 2
  have gW03 := KW0.out.2.1.frozen 3
  have gW04 := KW0.out.2.1.frozen 4
  go_wp2_with fail
  refine (at_any 43 43 rfl s _ (by omega)).mono ?_
  rintro e w1 ⟨rfl, hw⟩
  have hb := below_of_eq hw
  clear hw
  have Kw1 : Hid (Two w w1 g #[.int .i64 0, .int .i64 0, .int .i64 0, .string ⟨#[]⟩, .string ⟨#[]⟩]) := Two.below KW0.out hb
  clear aW00 gW00 aW01 gW01 aW02 gW02 aW03 gW03 aW04 gW04 hb
  obtain ⟨aw10, aw11, aw12, aw13, aw14⟩ := cells5 Kw1.out.2.1
  have gw10 := Kw1.out.2.1.frozen 0
  have gw11 := Kw1.out.2.1.frozen 1
  have gw12 := Kw1.out.2.1.frozen 2
  have gw13 := Kw1.out.2.1.frozen 3
  have gw14 := Kw1.out.2.1.frozen 4
  rw [hk1]
  go_wp2
  go_region_held3 (fun w' => True) (trivial) (fail)
  go_wp2_with fail
  refine (identifiers_any MET _ (by omega)).mono ?_
  rintro e w2 ⟨rfl, hb⟩
  have Kw2 : Hid (Two w w2 g #[.int .i64 0, .int .i64 0, .int .i64 0, .string ⟨#[]⟩, .string (S MET)]) := Two.below (Two.drew (Two.put Kw1.out 4 (.string (S MET)))) hb
  clear aw10 gw10 aw11 gw11 aw12 gw12 aw13 gw13 aw14 gw14 hb
  obtain ⟨aw20, aw21, aw22, aw23, aw24⟩ := cells5 Kw2.out.2.1
  have gw20 := Kw2.out.2.1.frozen 0
  have gw21 := Kw2.out.2.1.frozen 1
  have gw22 := Kw2.out.2.1.frozen 2
  have gw23 := Kw2.out.2.1.frozen 3
  have gw24 := Kw2.out.2.1.frozen 4
  rw [hi1]
  go_wp2_with fail
  refine (at_any 45 45 rfl S1 _ (by omega)).mono ?_
  rintro e w3 ⟨rfl, hw⟩
  have hb := below_of_eq hw
  clear hw
  have Kw3 : Hid (Two w w3 g #[.int .i64 0, .int .i64 0, .int .i64 0, .string ⟨#[]⟩, .string (S MET)]) := Two.below Kw2.out hb
  clear aw20 gw20 aw21 gw21 aw22 gw22 aw23 gw23 aw24 gw24 hb
  obtain ⟨aw30, aw31, aw32, aw33, aw34⟩ := cells5 Kw3.out.2.1
  have gw30 := Kw3.out.2.1.frozen 0
  have gw31 := Kw3.out.2.1.frozen 1
  have gw32 := Kw3.out.2.1.frozen 2
  have gw33 := Kw3.out.2.1.frozen 3
  have gw34 := Kw3.out.2.1.frozen 4
  rw [hk2]
  go_wp2_with fail
  refine (split_any S1 _ (by omega)).mono ?_
  rintro e w5 ⟨A, cc, rfl, hr, _, _, hb⟩
  have HR := hide hr
  clear hr
  have hnl := dots_length S1
  have HMEM := hide (dots_mem S1)
  have HAD := hide had
  clear had
  obtain ⟨n, hn⟩ : ∃ n, n = (dots S1).length := ⟨_, rfl⟩
  rw [← hn] at HR hnl ⊢
  have HN := hide hn
  clear hn
  have Kw5 : Hid (Two w w5 g #[.int .i64 0, .int .i64 0, .int .i64 0, .string ⟨#[]⟩, .string (S MET)]) := Two.below Kw3.out hb
  clear aw30 gw30 aw31 gw31 aw32 gw32 aw33 gw33 aw34 gw34 hb
  obtain ⟨aw50, aw51, aw52, aw53, aw54⟩ := cells5 Kw5.out.2.1
  have gw50 := Kw5.out.2.1.frozen 0
  have gw51 := Kw5.out.2.1.frozen 1
  have gw52 := Kw5.out.2.1.frozen 2
  have gw53 := Kw5.out.2.1.frozen 3
  have gw54 := Kw5.out.2.1.frozen 4
  go_wp2
  go_loopw [65] (fun i wr => ∃ j : Nat, j ≤ n ∧ i = .int .i64 j ∧ wr = w5 ∧ Hid (((dots S1).take j).all digitsB = true)) (fun i _ => n - (intOf i).toNat)
  case atStart => exact ⟨0, Nat.zero_le _, rfl, rfl, rfl⟩
  case round =>
    obtain ⟨j, hj, rfl, hwr, HA⟩ := hrel
    subst hwr
    by_cases hlt : j < n
    · obtain ⟨ad, u, rfl, _, hx, hcx⟩ := HR.out.at_ hlt
      obtain ⟨x, hxx, rfl⟩ := strs_at hx
      have hxl := (HMEM.out x (mem_at hxx)).2
      have HX := hide hxx
      clear hx hxx
      cases hd : digitsB x
      · exfalso
        have h1 := List.all_eq_true.1 HAD.out x (mem_at HX.out)
        rw [hd] at h1
        cases h1

      · go_wp2_with fail
        refine (digits_any x _ (by omega)).mono ?_
        rintro e w6 ⟨rfl, rfl⟩
        rw [hd]
        have HD := hide hd
        clear hd
        go_wp2
        go_roundw
        case measure => simp [intOf]; omega
        case rel =>
          refine ⟨j + 1, by omega, by go_num, trivial, ?_⟩
          show _ = _
          rw [take_succ HX.out, List.all_append, HA.out]
          simp [HD.out]
    · obtain rfl : j = n := by omega
      have hn2 : ((j : Int) != 3) = true := by have := HN.out; simp; omega
      have hn3 : ¬ (j : Int) = 3 := by have := HN.out; omega
      have hfv := five (x0 := .int .i64 0) (x1 := .int .i64 0) (x2 := .int .i64 0) (x3 := .string ⟨#[]⟩) (x4 := .string (S MET)) Kw5.out.1 Kw5.out.2.2.1
      have f0 := Kw5.out.1.frozen 0
      have f1 := Kw5.out.1.frozen 1
      have f2 := Kw5.out.1.frozen 2
      have f3 := Kw5.out.1.frozen 3
      have f4 := Kw5.out.1.frozen 4
      obtain ⟨u0, u1, u2, u3, u4⟩ := cells5 Kw5.out.1
      obtain ⟨v0, v1, v2, v3, v4⟩ := cells5 hfv.1
      have HF := hide hfv.2
      clear hfv
      go_wp2
      refine bodyPost_ret (v := .tuple #[.agg #[.int .i64 0, .int .i64 0, .int .i64 0, .string ⟨#[]⟩, .string (S MET)], .int .i64 0]) ?_ rfl ?_
      · simp only [results, Tryd.f12]
        simp [go_sem, v0, v1, v2, v3, v4]
      · exact spec_is HP.out (v := ⟨0, 0, 0, [], MET⟩) rfl HF.out


set_option linter.unusedVariables false in
set_option linter.unusedSimpArgs false in
set_option maxHeartbeats 2000000 in
set_option maxRecDepth 100000 in
theorem spec_TF_1 (s : Bs) (w : World) (hl : s.length ≤ 8589934400) (c : UInt8) (hc : s[0]? = some c) (h118 : ¬ c = 118) (h86 : ¬ c = 86) (S1 MET : Bs) (k1 : Nat) (hk1 : fst 43 s = k1) (hlt1 : k1 < s.length) (hb1 : bef 43 s = S1) (ha1 : aft 43 s = MET) (hi1 : identsB MET = true) (hk2 : fst 45 S1 = S1.length) (hb2 : bef 45 S1 = S1) (ha2 : aft 45 S1 = []) (had : (dots S1).all digitsB = true) (x0 x1 x2 : Bs) (h3 : dots S1 = [x0, x1, x2]) (hls : leadingB S1 = true) : Calls Tryd.prog 12 #[.string (S s)] w (SpecOut s w) := by
  have hle : s.isEmpty = false := by cases s with | nil => cases hc | cons _ _ => rfl
  have hix : ∀ W : World, (Instr.index 9 (.string (S s)) (.int .i64 0)).run Tryd.prog W = .ok (.int .u8 (c.toNat : Int)) W := index_S (l := s) (k := 0) hc
  have hlen : 0 < s.length := by cases s with | nil => cases hc | cons _ _ => simp
  have n1 : ((c.toNat : Int) == 118) = false := beq_eq_false_iff_ne.2 (fun e => h118 (UInt8.toNat_inj.1 (by have : (118 : UInt8).toNat = 118 := rfl; omega)))
  have n2 : ((c.toNat : Int) == 86) = false := beq_eq_false_iff_ne.2 (fun e => h86 (UInt8.toNat_inj.1 (by have : (86 : UInt8).toNat = 86 := rfl; omega)))
  have m1 : ¬ (c.toNat : Int) = 118 := by simpa using n1
  have m2 : ¬ (c.toNat : Int) = 86 := by simpa using n2
  have hv0 : ¬ (s.head? = some 118 ∨ s.head? = some 86) := by cases s with | nil => cases hc | cons d _ => (simp at hc ⊢; subst hc; exact ⟨h118, h86⟩)
  have hf1 : fnd 43 s = true := by unfold fnd; rw [hk1]; exact decide_eq_true hlt1
  have hsb1 := slice_bef hk1 hb1
  have hsa1 := slice_aft hk1 hlt1 ha1
  have hw1 : IntKind.i64.wrap ((k1 : Int) + 1) = (k1 : Int) + 1 := by rw [IntKind.wrap_i64]; omega
  have hl1 : S1.length ≤ s.length := by have := bef_len 43 s; rw [hb1] at this; exact this
  have hlm : MET.length ≤ s.length := by have := aft_len 43 s; rw [ha1] at this; exact this
  have hf2 : fnd 45 S1 = false := by unfold fnd; rw [hk2]; exact decide_eq_false (Nat.lt_irrefl _)
  have hl2 : S1.length ≤ S1.length := Nat.le_refl _
  have hp := specP_L hv0 (by rw [hf1, ha1, hi1]; rfl) (by rw [hb1, hf2]; rfl) (by rw [hb1, hb2]; exact had) (by rw [hb1, hb2, h3]; rfl) (by rw [hb1, hb2, ha2]; rw [hls]; rfl)
  rw [hb1, ha1, ha2] at hp
  have HP := hide hp
  clear hp
  try clear hb1 ha1 hf1
  clear h118 h86 hc
  clear hv0
  try clear hb2 ha2 hf2
  have HH3 := hide h3
  clear h3
  have hk0 := Two.start w
  go_enter Tryd.func12, Tryd.ntmps12
  go_wp2_with fail
  generalize (w.alloc (.cells #[.int .i64 0, .int .i64 0, .int .i64 0, .string ⟨#[]⟩, .string ⟨#[]⟩] 26)).alloc (.cells #[.int .i64 0, .int .i64 0, .int .i64 0, .string ⟨#[]⟩, .string ⟨#[]⟩] 26) = W0 at *
  generalize w.heap.size + 1 = g at *
  have hgn := Nat.ne_of_lt hk0.2.2.2
  have hgm := hgn.symm
  have KW0 := hide hk0
  clear hk0
  obtain ⟨aW00, aW01, aW02, aW03, aW04⟩ := cells5 KW0.out.2.1
  have gW00 := KW0.out.2.1.frozen 0
  have gW01 := KW0.out.2.1.frozen 1
  have gW02 := KW0.out.2.1.frozen 2
  have gW03 := KW0.out.2.1.frozen 3
  have gW04 := KW0.out.2.1.frozen 4
  go_wp2_with fail
  refine (at_any 43 43 rfl s _ (by omega)).mono ?_
  rintro e w1 ⟨rfl, hw⟩
  have hb := below_of_eq hw
  clear hw
  have Kw1 : Hid (Two w w1 g #[.int .i64 0, .int .i64 0, .int .i64 0, .string ⟨#[]⟩, .string ⟨#[]⟩]) := Two.below KW0.out hb
  clear aW00 gW00 aW01 gW01 aW02 gW02 aW03 gW03 aW04 gW04 hb
  obtain ⟨aw10, aw11, aw12, aw13, aw14⟩ := cells5 Kw1.out.2.1
  have gw10 := Kw1.out.2.1.frozen 0
  have gw11 := Kw1.out.2.1.frozen 1
  have gw12 := Kw1.out.2.1.frozen 2
  have gw13 := Kw1.out.2.1.frozen 3
  have gw14 := Kw1.out.2.1.frozen 4
  rw [hk1]
  go_wp2
  go_region_held3 (fun w' => True) (trivial) (fail)
  go_wp2_with fail
  refine (identifiers_any MET _ (by omega)).mono ?_
  rintro e w2 ⟨rfl, hb⟩
  have Kw2 : Hid (Two w w2 g #[.int .i64 0, .int .i64 0, .int .i64 0, .string ⟨#[]⟩, .string (S MET)]) := Two.below (Two.drew (Two.put Kw1.out 4 (.string (S MET)))) hb
  clear aw10 gw10 aw11 gw11 aw12 gw12 aw13 gw13 aw14 gw14 hb
  obtain ⟨aw20, aw21, aw22, aw23, aw24⟩ := cells5 Kw2.out.2.1
  have gw20 := Kw2.out.2.1.frozen 0
  have gw21 := Kw2.out.2.1.frozen 1
  have gw22 := Kw2.out.2.1.frozen 2
  have gw23 := Kw2.out.2.1.frozen 3
  have gw24 := Kw2.out.2.1.frozen 4
  rw [hi1]
  go_wp2_with fail
  refine (at_any 45 45 rfl S1 _ (by omega)).mono ?_
  rintro e w3 ⟨rfl, hw⟩
  have hb := below_of_eq hw
  clear hw
  have Kw3 : Hid (Two w w3 g #[.int .i64 0, .int .i64 0, .int .i64 0, .string ⟨#[]⟩, .string (S MET)]) := Two.below Kw2.out hb
  clear aw20 gw20 aw21 gw21 aw22 gw22 aw23 gw23 aw24 gw24 hb
  obtain ⟨aw30, aw31, aw32, aw33, aw34⟩ := cells5 Kw3.out.2.1
  have gw30 := Kw3.out.2.1.frozen 0
  have gw31 := Kw3.out.2.1.frozen 1
  have gw32 := Kw3.out.2.1.frozen 2
  have gw33 := Kw3.out.2.1.frozen 3
  have gw34 := Kw3.out.2.1.frozen 4
  rw [hk2]
  go_wp2_with fail
  refine (split_any S1 _ (by omega)).mono ?_
  rintro e w5 ⟨A, cc, rfl, hr, _, _, hb⟩
  have HR := hide hr
  clear hr
  have hnl := dots_length S1
  have HMEM := hide (dots_mem S1)
  have HAD := hide had
  clear had
  obtain ⟨n, hn⟩ : ∃ n, n = (dots S1).length := ⟨_, rfl⟩
  rw [← hn] at HR hnl ⊢
  have HN := hide hn
  clear hn
  have Kw5 : Hid (Two w w5 g #[.int .i64 0, .int .i64 0, .int .i64 0, .string ⟨#[]⟩, .string (S MET)]) := Two.below Kw3.out hb
  clear aw30 gw30 aw31 gw31 aw32 gw32 aw33 gw33 aw34 gw34 hb
  obtain ⟨aw50, aw51, aw52, aw53, aw54⟩ := cells5 Kw5.out.2.1
  have gw50 := Kw5.out.2.1.frozen 0
  have gw51 := Kw5.out.2.1.frozen 1
  have gw52 := Kw5.out.2.1.frozen 2
  have gw53 := Kw5.out.2.1.frozen 3
  have gw54 := Kw5.out.2.1.frozen 4
  go_wp2
  go_loopw [65] (fun i wr => ∃ j : Nat, j ≤ n ∧ i = .int .i64 j ∧ wr = w5 ∧ Hid (((dots S1).take j).all digitsB = true)) (fun i _ => n - (intOf i).toNat)
  case atStart => exact ⟨0, Nat.zero_le _, rfl, rfl, rfl⟩
  case round =>
    obtain ⟨j, hj, rfl, hwr, HA⟩ := hrel
    subst hwr
    by_cases hlt : j < n
    · obtain ⟨ad, u, rfl, _, hx, hcx⟩ := HR.out.at_ hlt
      obtain ⟨x, hxx, rfl⟩ := strs_at hx
      have hxl := (HMEM.out x (mem_at hxx)).2
      have HX := hide hxx
      clear hx hxx
      cases hd : digitsB x
      · exfalso
        have h1 := List.all_eq_true.1 HAD.out x (mem_at HX.out)
        rw [hd] at h1
        cases h1

      · go_wp2_with fail
        refine (digits_any x _ (by omega)).mono ?_
        rintro e w6 ⟨rfl, rfl⟩
        rw [hd]
        have HD := hide hd
        clear hd
        go_wp2
        go_roundw
        case measure => simp [intOf]; omega
        case rel =>
          refine ⟨j + 1, by omega, by go_num, trivial, ?_⟩
          show _ = _
          rw [take_succ HX.out, List.all_append, HA.out]
          simp [HD.out]
    · obtain rfl : j = n := by omega
      obtain rfl : j = 3 := by have := HN.out; rw [HH3.out] at this; exact this
      have hxl0 := (HMEM.out x0 (by rw [HH3.out]; simp)).2
      have hxl1 := (HMEM.out x1 (by rw [HH3.out]; simp)).2
      have hxl2 := (HMEM.out x2 (by rw [HH3.out]; simp)).2
      go_wp2_with fail
      refine (leading_any S1 _ (by omega)).mono ?_
      rintro e w8 ⟨rfl, hb⟩
      rw [hls]
      have HR8 := hide (HR.out.below hb)
      clear HR
      have Kw8 : Hid (Two w w8 g #[.int .i64 0, .int .i64 0, .int .i64 0, .string ⟨#[]⟩, .string (S MET)]) := Two.below Kw5.out hb
      clear aw50 gw50 aw51 gw51 aw52 gw52 aw53 gw53 aw54 gw54 hb
      obtain ⟨aw80, aw81, aw82, aw83, aw84⟩ := cells5 Kw8.out.2.1
      have gw80 := Kw8.out.2.1.frozen 0
      have gw81 := Kw8.out.2.1.frozen 1
      have gw82 := Kw8.out.2.1.frozen 2
      have gw83 := Kw8.out.2.1.frozen 3
      have gw84 := Kw8.out.2.1.frozen 4
      have hfv := five (x0 := .int .i64 0) (x1 := .int .i64 0) (x2 := .int .i64 0) (x3 := .string ⟨#[]⟩) (x4 := .string (S MET)) Kw8.out.1 Kw8.out.2.2.1
      have f0 := Kw8.out.1.frozen 0
      have f1 := Kw8.out.1.frozen 1
      have f2 := Kw8.out.1.frozen 2
      have f3 := Kw8.out.1.frozen 3
      have f4 := Kw8.out.1.frozen 4
      obtain ⟨u0, u1, u2, u3, u4⟩ := cells5 Kw8.out.1
      obtain ⟨v0, v1, v2, v3, v4⟩ := cells5 hfv.1
      have HF := hide hfv.2
      clear hfv
      go_wp2
      refine bodyPost_ret (v := .tuple #[.agg #[.int .i64 0, .int .i64 0, .int .i64 0, .string ⟨#[]⟩, .string (S MET)], .int .i64 2]) ?_ rfl ?_
      · simp only [results, Tryd.f12]
        simp [go_sem, v0, v1, v2, v3, v4]
      · exact spec_is HP.out (v := ⟨0, 0, 0, [], MET⟩) rfl HF.out


set_option linter.unusedVariables false in
set_option linter.unusedSimpArgs false in
set_option maxHeartbeats 2000000 in
set_option maxRecDepth 100000 in
theorem spec_TF_3 (s : Bs) (w : World) (hl : s.length ≤ 8589934400) (c : UInt8) (hc : s[0]? = some c) (h118 : ¬ c = 118) (h86 : ¬ c = 86) (S1 MET : Bs) (k1 : Nat) (hk1 : fst 43 s = k1) (hlt1 : k1 < s.length) (hb1 : bef 43 s = S1) (ha1 : aft 43 s = MET) (hi1 : identsB MET = true) (hk2 : fst 45 S1 = S1.length) (hb2 : bef 45 S1 = S1) (ha2 : aft 45 S1 = []) (had : (dots S1).all digitsB = true) (x0 x1 x2 : Bs) (h3 : dots S1 = [x0, x1, x2]) (hls : leadingB S1 = false) (hlq : leadingB [] = false) (hg0 : 18 < x0.length) : Calls Tryd.prog 12 #[.string (S s)] w (SpecOut s w) := by
  have hle : s.isEmpty = false := by cases s with | nil => cases hc | cons _ _ => rfl
  have hix : ∀ W : World, (Instr.index 9 (.string (S s)) (.int .i64 0)).run Tryd.prog W = .ok (.int .u8 (c.toNat : Int)) W := index_S (l := s) (k := 0) hc
  have hlen : 0 < s.length := by cases s with | nil => cases hc | cons _ _ => simp
  have n1 : ((c.toNat : Int) == 118) = false := beq_eq_false_iff_ne.2 (fun e => h118 (UInt8.toNat_inj.1 (by have : (118 : UInt8).toNat = 118 := rfl; omega)))
  have n2 : ((c.toNat : Int) == 86) = false := beq_eq_false_iff_ne.2 (fun e => h86 (UInt8.toNat_inj.1 (by have : (86 : UInt8).toNat = 86 := rfl; omega)))
  have m1 : ¬ (c.toNat : Int) = 118 := by simpa using n1
  have m2 : ¬ (c.toNat : Int) = 86 := by simpa using n2
  have hv0 : ¬ (s.head? = some 118 ∨ s.head? = some 86) := by cases s with | nil => cases hc | cons d _ => (simp at hc ⊢; subst hc; exact ⟨h118, h86⟩)
  have hf1 : fnd 43 s = true := by unfold fnd; rw [hk1]; exact decide_eq_true hlt1
  have hsb1 := slice_bef hk1 hb1
  have hsa1 := slice_aft hk1 hlt1 ha1
  have hw1 : IntKind.i64.wrap ((k1 : Int) + 1) = (k1 : Int) + 1 := by rw [IntKind.wrap_i64]; omega
  have hl1 : S1.length ≤ s.length := by have := bef_len 43 s; rw [hb1] at this; exact this
  have hlm : MET.length ≤ s.length := by have := aft_len 43 s; rw [ha1] at this; exact this
  have hf2 : fnd 45 S1 = false := by unfold fnd; rw [hk2]; exact decide_eq_false (Nat.lt_irrefl _)
  have hl2 : S1.length ≤ S1.length := Nat.le_refl _
  have hp := specP_L hv0 (by rw [hf1, ha1, hi1]; rfl) (by rw [hb1, hf2]; rfl) (by rw [hb1, hb2]; exact had) (by rw [hb1, hb2, h3]; rfl) (by rw [hb1, hb2, ha2]; unfold long; rw [h3]; simp [List.any_cons, hg0])
  rw [hb1, ha1, ha2] at hp
  have HP := hide hp
  clear hp
  try clear hb1 ha1 hf1
  clear h118 h86 hc
  clear hv0
  try clear hb2 ha2 hf2
  have HH3 := hide h3
  clear h3
  have hk0 := Two.start w
  go_enter Tryd.func12, Tryd.ntmps12
  go_wp2_with fail
  generalize (w.alloc (.cells #[.int .i64 0, .int .i64 0, .int .i64 0, .string ⟨#[]⟩, .string ⟨#[]⟩] 26)).alloc (.cells #[.int .i64 0, .int .i64 0, .int .i64 0, .string ⟨#[]⟩, .string ⟨#[]⟩] 26) = W0 at *
  generalize w.heap.size + 1 = g at *
  have hgn := Nat.ne_of_lt hk0.2.2.2
  have hgm := hgn.symm
  have KW0 := hide hk0
  clear hk0
  obtain ⟨aW00, aW01, aW02, aW03, aW04⟩ := cells5 KW0.out.2.1
  have gW00 := KW0.out.2.1.frozen 0
  have gW01 := KW0.out.2.1.frozen 1
  have gW02 := KW0.out.2.1.frozen 2
  have gW03 := KW0.out.2.1.frozen 3
  have gW04 := KW0.out.2.1.frozen 4
  go_wp2_with fail
  refine (at_any 43 43 rfl s _ (by omega)).mono ?_
  rintro e w1 ⟨rfl, hw⟩
  have hb := below_of_eq hw
  clear hw
  have Kw1 : Hid (Two w w1 g #[.int .i64 0, .int .i64 0, .int .i64 0, .string ⟨#[]⟩, .string ⟨#[]⟩]) := Two.below KW0.out hb
  clear aW00 gW00 aW01 gW01 aW02 gW02 aW03 gW03 aW04 gW04 hb
  obtain ⟨aw10, aw11, aw12, aw13, aw14⟩ := cells5 Kw1.out.2.1
  have gw10 := Kw1.out.2.1.frozen 0
  have gw11 := Kw1.out.2.1.frozen 1
  have gw12 := Kw1.out.2.1.frozen 2
  have gw13 := Kw1.out.2.1.frozen 3
  have gw14 := Kw1.out.2.1.frozen 4
  rw [hk1]
  go_wp2
  go_region_held3 (fun w' => True) (trivial) (fail)
  go_wp2_with fail
  refine (identifiers_any MET _ (by omega)).mono ?_
  rintro e w2 ⟨rfl, hb⟩
  have Kw2 : Hid (Two w w2 g #[.int .i64 0, .int .i64 0, .int .i64 0, .string ⟨#[]⟩, .string (S MET)]) := Two.below (Two.drew (Two.put Kw1.out 4 (.string (S MET)))) hb
  clear aw10 gw10 aw11 gw11 aw12 gw12 aw13 gw13 aw14 gw14 hb
  obtain ⟨aw20, aw21, aw22, aw23, aw24⟩ := cells5 Kw2.out.2.1
  have gw20 := Kw2.out.2.1.frozen 0
  have gw21 := Kw2.out.2.1.frozen 1
  have gw22 := Kw2.out.2.1.frozen 2
  have gw23 := Kw2.out.2.1.frozen 3
  have gw24 := Kw2.out.2.1.frozen 4
  rw [hi1]
  go_wp2_with fail
  refine (at_any 45 45 rfl S1 _ (by omega)).mono ?_
  rintro e w3 ⟨rfl, hw⟩
  have hb := below_of_eq hw
  clear hw
  have Kw3 : Hid (Two w w3 g #[.int .i64 0, .int .i64 0, .int .i64 0, .string ⟨#[]⟩, .string (S MET)]) := Two.below Kw2.out hb
  clear aw20 gw20 aw21 gw21 aw22 gw22 aw23 gw23 aw24 gw24 hb
  obtain ⟨aw30, aw31, aw32, aw33, aw34⟩ := cells5 Kw3.out.2.1
  have gw30 := Kw3.out.2.1.frozen 0
  have gw31 := Kw3.out.2.1.frozen 1
  have gw32 := Kw3.out.2.1.frozen 2
  have gw33 := Kw3.out.2.1.frozen 3
  have gw34 := Kw3.out.2.1.frozen 4
  rw [hk2]
  go_wp2_with fail
  refine (split_any S1 _ (by omega)).mono ?_
  rintro e w5 ⟨A, cc, rfl, hr, _, _, hb⟩
  have HR := hide hr
  clear hr
  have hnl := dots_length S1
  have HMEM := hide (dots_mem S1)
  have HAD := hide had
  clear had
  obtain ⟨n, hn⟩ : ∃ n, n = (dots S1).length := ⟨_, rfl⟩
  rw [← hn] at HR hnl ⊢
  have HN := hide hn
  clear hn
  have Kw5 : Hid (Two w w5 g #[.int .i64 0, .int .i64 0, .int .i64 0, .string ⟨#[]⟩, .string (S MET)]) := Two.below Kw3.out hb
  clear aw30 gw30 aw31 gw31 aw32 gw32 aw33 gw33 aw34 gw34 hb
  obtain ⟨aw50, aw51, aw52, aw53, aw54⟩ := cells5 Kw5.out.2.1
  have gw50 := Kw5.out.2.1.frozen 0
  have gw51 := Kw5.out.2.1.frozen 1
  have gw52 := Kw5.out.2.1.frozen 2
  have gw53 := Kw5.out.2.1.frozen 3
  have gw54 := Kw5.out.2.1.frozen 4
  go_wp2
  go_loopw [65] (fun i wr => ∃ j : Nat, j ≤ n ∧ i = .int .i64 j ∧ wr = w5 ∧ Hid (((dots S1).take j).all digitsB = true)) (fun i _ => n - (intOf i).toNat)
  case atStart => exact ⟨0, Nat.zero_le _, rfl, rfl, rfl⟩
  case round =>
    obtain ⟨j, hj, rfl, hwr, HA⟩ := hrel
    subst hwr
    by_cases hlt : j < n
    · obtain ⟨ad, u, rfl, _, hx, hcx⟩ := HR.out.at_ hlt
      obtain ⟨x, hxx, rfl⟩ := strs_at hx
      have hxl := (HMEM.out x (mem_at hxx)).2
      have HX := hide hxx
      clear hx hxx
      cases hd : digitsB x
      · exfalso
        have h1 := List.all_eq_true.1 HAD.out x (mem_at HX.out)
        rw [hd] at h1
        cases h1

      · go_wp2_with fail
        refine (digits_any x _ (by omega)).mono ?_
        rintro e w6 ⟨rfl, rfl⟩
        rw [hd]
        have HD := hide hd
        clear hd
        go_wp2
        go_roundw
        case measure => simp [intOf]; omega
        case rel =>
          refine ⟨j + 1, by omega, by go_num, trivial, ?_⟩
          show _ = _
          rw [take_succ HX.out, List.all_append, HA.out]
          simp [HD.out]
    · obtain rfl : j = n := by omega
      obtain rfl : j = 3 := by have := HN.out; rw [HH3.out] at this; exact this
      have hxl0 := (HMEM.out x0 (by rw [HH3.out]; simp)).2
      have hxl1 := (HMEM.out x1 (by rw [HH3.out]; simp)).2
      have hxl2 := (HMEM.out x2 (by rw [HH3.out]; simp)).2
      go_wp2_with fail
      refine (leading_any S1 _ (by omega)).mono ?_
      rintro e w8 ⟨rfl, hb⟩
      rw [hls]
      have HR8 := hide (HR.out.below hb)
      clear HR
      have Kw8 : Hid (Two w w8 g #[.int .i64 0, .int .i64 0, .int .i64 0, .string ⟨#[]⟩, .string (S MET)]) := Two.below Kw5.out hb
      clear aw50 gw50 aw51 gw51 aw52 gw52 aw53 gw53 aw54 gw54 hb
      obtain ⟨aw80, aw81, aw82, aw83, aw84⟩ := cells5 Kw8.out.2.1
      have gw80 := Kw8.out.2.1.frozen 0
      have gw81 := Kw8.out.2.1.frozen 1
      have gw82 := Kw8.out.2.1.frozen 2
      have gw83 := Kw8.out.2.1.frozen 3
      have gw84 := Kw8.out.2.1.frozen 4
      go_wp2_with fail
      refine (leading_any [] _ (by simp)).mono ?_
      rintro e w9 ⟨rfl, hb⟩
      rw [hlq]
      have HR9 := hide (HR8.out.below hb)
      clear HR8
      have Kw9 : Hid (Two w w9 g #[.int .i64 0, .int .i64 0, .int .i64 0, .string ⟨#[]⟩, .string (S MET)]) := Two.below Kw8.out hb
      clear aw80 gw80 aw81 gw81 aw82 gw82 aw83 gw83 aw84 gw84 hb
      obtain ⟨aw90, aw91, aw92, aw93, aw94⟩ := cells5 Kw9.out.2.1
      have gw90 := Kw9.out.2.1.frozen 0
      have gw91 := Kw9.out.2.1.frozen 1
      have gw92 := Kw9.out.2.1.frozen 2
      have gw93 := Kw9.out.2.1.frozen 3
      have gw94 := Kw9.out.2.1.frozen 4
      obtain ⟨ad, rfl, hK, hbk, hcs⟩ := HR9.out.2 (by omega)
      have hgad : g < ad.block := Nat.lt_of_lt_of_le (Blk.lt Kw3.out.2.1) hK
      have hga1 : ¬ g = ad.block := Nat.ne_of_lt hgad
      have hga2 : ¬ ad.block = g := fun e => hga1 e.symm
      clear hK
      rw [HH3.out] at hcs
      have c0 : w9.cell? ad = some (.string (S x0)) := hcs 0 _ rfl
      have c1 : w9.cell? ⟨ad.block, ad.off + 1, none⟩ = some (.string (S x1)) := hcs 1 _ rfl
      have c2 : w9.cell? ⟨ad.block, ad.off + 2, none⟩ = some (.string (S x2)) := hcs 2 _ rfl
      clear hcs
      have hz0 : (18 : Int) < (x0.length : Int) := by omega
      have hy0 : decide ((18 : Int) < (x0.length : Int)) = true := decide_eq_true hz0
      have hfv := five (x0 := .int .i64 0) (x1 := .int .i64 0) (x2 := .int .i64 0) (x3 := .string ⟨#[]⟩) (x4 := .string (S MET)) Kw9.out.1 Kw9.out.2.2.1
      have f0 := Kw9.out.1.frozen 0
      have f1 := Kw9.out.1.frozen 1
      have f2 := Kw9.out.1.frozen 2
      have f3 := Kw9.out.1.frozen 3
      have f4 := Kw9.out.1.frozen 4
      obtain ⟨u0, u1, u2, u3, u4⟩ := cells5 Kw9.out.1
      obtain ⟨v0, v1, v2, v3, v4⟩ := cells5 hfv.1
      have HF := hide hfv.2
      clear hfv
      go_wp2
      refine bodyPost_ret (v := .tuple #[.agg #[.int .i64 0, .int .i64 0, .int .i64 0, .string ⟨#[]⟩, .string (S MET)], .int .i64 2]) ?_ rfl ?_
      · simp only [results, Tryd.f12]
        simp [go_sem, v0, v1, v2, v3, v4]
      · exact spec_is HP.out (v := ⟨0, 0, 0, [], MET⟩) rfl HF.out


set_option linter.unusedVariables false in
set_option linter.unusedSimpArgs false in
set_option maxHeartbeats 2000000 in
set_option maxRecDepth 100000 in
theorem spec_TF_4 (s : Bs) (w : World) (hl : s.length ≤ 8589934400) (c : UInt8) (hc : s[0]? = some c) (h118 : ¬ c = 118) (h86 : ¬ c = 86) (S1 MET : Bs) (k1 : Nat) (hk1 : fst 43 s = k1) (hlt1 : k1 < s.length) (hb1 : bef 43 s = S1) (ha1 : aft 43 s = MET) (hi1 : identsB MET = true) (hk2 : fst 45 S1 = S1.length) (hb2 : bef 45 S1 = S1) (ha2 : aft 45 S1 = []) (had : (dots S1).all digitsB = true) (x0 x1 x2 : Bs) (h3 : dots S1 = [x0, x1, x2]) (hls : leadingB S1 = false) (hlq : leadingB [] = false) (hg0 : x0.length ≤ 18) (hg1 : 18 < x1.length) : Calls Tryd.prog 12 #[.string (S s)] w (SpecOut s w) := by
  have hle : s.isEmpty = false := by cases s with | nil => cases hc | cons _ _ => rfl
  have hix : ∀ W : World, (Instr.index 9 (.string (S s)) (.int .i64 0)).run Tryd.prog W = .ok (.int .u8 (c.toNat : Int)) W := index_S (l := s) (k := 0) hc
  have hlen : 0 < s.length := by cases s with | nil => cases hc | cons _ _ => simp
  have n1 : ((c.toNat : Int) == 118) = false := beq_eq_false_iff_ne.2 (fun e => h118 (UInt8.toNat_inj.1 (by have : (118 : UInt8).toNat = 118 := rfl; omega)))
  have n2 : ((c.toNat : Int) == 86) = false := beq_eq_false_iff_ne.2 (fun e => h86 (UInt8.toNat_inj.1 (by have : (86 : UInt8).toNat = 86 := rfl; omega)))
  have m1 : ¬ (c.toNat : Int) = 118 := by simpa using n1
  have m2 : ¬ (c.toNat : Int) = 86 := by simpa using n2
  have hv0 : ¬ (s.head? = some 118 ∨ s.head? = some 86) := by cases s with | nil => cases hc | cons d _ => (simp at hc ⊢; subst hc; exact ⟨h118, h86⟩)
  have hf1 : fnd 43 s = true := by unfold fnd; rw [hk1]; exact decide_eq_true hlt1
  have hsb1 := slice_bef hk1 hb1
  have hsa1 := slice_aft hk1 hlt1 ha1
  have hw1 : IntKind.i64.wrap ((k1 : Int) + 1) = (k1 : Int) + 1 := by rw [IntKind.wrap_i64]; omega
  have hl1 : S1.length ≤ s.length := by have := bef_len 43 s; rw [hb1] at this; exact this
  have hlm : MET.length ≤ s.length := by have := aft_len 43 s; rw [ha1] at this; exact this
  have hf2 : fnd 45 S1 = false := by unfold fnd; rw [hk2]; exact decide_eq_false (Nat.lt_irrefl _)
  have hl2 : S1.length ≤ S1.length := Nat.le_refl _
  have hp := specP_L hv0 (by rw [hf1, ha1, hi1]; rfl) (by rw [hb1, hf2]; rfl) (by rw [hb1, hb2]; exact had) (by rw [hb1, hb2, h3]; rfl) (by rw [hb1, hb2, ha2]; unfold long; rw [h3]; simp [List.any_cons, hg0, hg1])
  rw [hb1, ha1, ha2] at hp
  have HP := hide hp
  clear hp
  try clear hb1 ha1 hf1
  clear h118 h86 hc
  clear hv0
  try clear hb2 ha2 hf2
  have HH3 := hide h3
  clear h3
  have hk0 := Two.start w
  go_enter Tryd.func12, Tryd.ntmps12
  go_wp2_with fail
  generalize (w.alloc (.cells #[.int .i64 0, .int .i64 0, .int .i64 0, .string ⟨#[]⟩, .string ⟨#[]⟩] 26)).alloc (.cells #[.int .i64 0, .int .i64 0, .int .i64 0, .string ⟨#[]⟩, .string ⟨#[]⟩] 26) = W0 at *
  generalize w.heap.size + 1 = g at *
  have hgn := Nat.ne_of_lt hk0.2.2.2
  have hgm := hgn.symm
  have KW0 := hide hk0
  clear hk0
  obtain ⟨aW00, aW01, aW02, aW03, aW04⟩ := cells5 KW0.out.2.1
  have gW00 := KW0.out.2.1.frozen 0
  have gW01 := KW0.out.2.1.frozen 1
  have gW02 := KW0.out.2.1.frozen 2
  have gW03 := KW0.out.2.1.frozen 3
  have gW04 := KW0.out.2.1.frozen 4
  go_wp2_with fail
  refine (at_any 43 43 rfl s _ (by omega)).mono ?_
  rintro e w1 ⟨rfl, hw⟩
  have hb := below_of_eq hw
  clear hw
  have Kw1 : Hid (Two w w1 g #[.int .i64 0, .int .i64 0, .int .i64 0, .string ⟨#[]⟩, .string ⟨#[]⟩]) := Two.below KW0.out hb
  clear aW00 gW00 aW01 gW01 aW02 gW02 aW03 gW03 aW04 gW04 hb
  obtain ⟨aw10, aw11, aw12, aw13, aw14⟩ := cells5 Kw1.out.2.1
  have gw10 := Kw1.out.2.1.frozen 0
  have gw11 := Kw1.out.2.1.frozen 1
  have gw12 := Kw1.out.2.1.frozen 2
  have gw13 := Kw1.out.2.1.frozen 3
  have gw14 := Kw1.out.2.1.frozen 4
  rw [hk1]
  go_wp2
  go_region_held3 (fun w' => True) (trivial) (fail)
  go_wp2_with fail
  refine (identifiers_any MET _ (by omega)).mono ?_
  rintro e w2 ⟨rfl, hb⟩
  have Kw2 : Hid (Two w w2 g #[.int .i64 0, .int .i64 0, .int .i64 0, .string ⟨#[]⟩, .string (S MET)]) := Two.below (Two.drew (Two.put Kw1.out 4 (.string (S MET)))) hb
  clear aw10 gw10 aw11 gw11 aw12 gw12 aw13 gw13 aw14 gw14 hb
  obtain ⟨aw20, aw21, aw22, aw23, aw24⟩ := cells5 Kw2.out.2.1
  have gw20 := Kw2.out.2.1.frozen 0
  have gw21 := Kw2.out.2.1.frozen 1
  have gw22 := Kw2.out.2.1.frozen 2
  have gw23 := Kw2.out.2.1.frozen 3
  have gw24 := Kw2.out.2.1.frozen 4
  rw [hi1]
  go_wp2_with fail
  refine (at_any 45 45 rfl S1 _ (by omega)).mono ?_
  rintro e w3 ⟨rfl, hw⟩
  have hb := below_of_eq hw
  clear hw
  have Kw3 : Hid (Two w w3 g #[.int .i64 0, .int .i64 0, .int .i64 0, .string ⟨#[]⟩, .string (S MET)]) := Two.below Kw2.out hb
  clear aw20 gw20 aw21 gw21 aw22 gw22 aw23 gw23 aw24 gw24 hb
  obtain ⟨aw30, aw31, aw32, aw33, aw34⟩ := cells5 Kw3.out.2.1
  have gw30 := Kw3.out.2.1.frozen 0
  have gw31 := Kw3.out.2.1.frozen 1
  have gw32 := Kw3.out.2.1.frozen 2
  have gw33 := Kw3.out.2.1.frozen 3
  have gw34 := Kw3.out.2.1.frozen 4
  rw [hk2]
  go_wp2_with fail
  refine (split_any S1 _ (by omega)).mono ?_
  rintro e w5 ⟨A, cc, rfl, hr, _, _, hb⟩
  have HR := hide hr
  clear hr
  have hnl := dots_length S1
  have HMEM := hide (dots_mem S1)
  have HAD := hide had
  clear had
  obtain ⟨n, hn⟩ : ∃ n, n = (dots S1).length := ⟨_, rfl⟩
  rw [← hn] at HR hnl ⊢
  have HN := hide hn
  clear hn
  have Kw5 : Hid (Two w w5 g #[.int .i64 0, .int .i64 0, .int .i64 0, .string ⟨#[]⟩, .string (S MET)]) := Two.below Kw3.out hb
  clear aw30 gw30 aw31 gw31 aw32 gw32 aw33 gw33 aw34 gw34 hb
  obtain ⟨aw50, aw51, aw52, aw53, aw54⟩ := cells5 Kw5.out.2.1
  have gw50 := Kw5.out.2.1.frozen 0
  have gw51 := Kw5.out.2.1.frozen 1
  have gw52 := Kw5.out.2.1.frozen 2
  have gw53 := Kw5.out.2.1.frozen 3
  have gw54 := Kw5.out.2.1.frozen 4
  go_wp2
  go_loopw [65] (fun i wr => ∃ j : Nat, j ≤ n ∧ i = .int .i64 j ∧ wr = w5 ∧ Hid (((dots S1).take j).all digitsB = true)) (fun i _ => n - (intOf i).toNat)
  case atStart => exact ⟨0, Nat.zero_le _, rfl, rfl, rfl⟩
  case round =>
    obtain ⟨j, hj, rfl, hwr, HA⟩ := hrel
    subst hwr
    by_cases hlt : j < n
    · obtain ⟨ad, u, rfl, _, hx, hcx⟩ := HR.out.at_ hlt
      obtain ⟨x, hxx, rfl⟩ := strs_at hx
      have hxl := (HMEM.out x (mem_at hxx)).2
      have HX := hide hxx
      clear hx hxx
      cases hd : digitsB x
      · exfalso
        have h1 := List.all_eq_true.1 HAD.out x (mem_at HX.out)
        rw [hd] at h1
        cases h1

      · go_wp2_with fail
        refine (digits_any x _ (by omega)).mono ?_
        rintro e w6 ⟨rfl, rfl⟩
        rw [hd]
        have HD := hide hd
        clear hd
        go_wp2
        go_roundw
        case measure => simp [intOf]; omega
        case rel =>
          refine ⟨j + 1, by omega, by go_num, trivial, ?_⟩
          show _ = _
          rw [take_succ HX.out, List.all_append, HA.out]
          simp [HD.out]
    · obtain rfl : j = n := by omega
      obtain rfl : j = 3 := by have := HN.out; rw [HH3.out] at this; exact this
      have hxl0 := (HMEM.out x0 (by rw [HH3.out]; simp)).2
      have hxl1 := (HMEM.out x1 (by rw [HH3.out]; simp)).2
      have hxl2 := (HMEM.out x2 (by rw [HH3.out]; simp)).2
      go_wp2_with fail
      refine (leading_any S1 _ (by omega)).mono ?_
      rintro e w8 ⟨rfl, hb⟩
      rw [hls]
      have HR8 := hide (HR.out.below hb)
      clear HR
      have Kw8 : Hid (Two w w8 g #[.int .i64 0, .int .i64 0, .int .i64 0, .string ⟨#[]⟩, .string (S MET)]) := Two.below Kw5.out hb
      clear aw50 gw50 aw51 gw51 aw52 gw52 aw53 gw53 aw54 gw54 hb
      obtain ⟨aw80, aw81, aw82, aw83, aw84⟩ := cells5 Kw8.out.2.1
      have gw80 := Kw8.out.2.1.frozen 0
      have gw81 := Kw8.out.2.1.frozen 1
      have gw82 := Kw8.out.2.1.frozen 2
      have gw83 := Kw8.out.2.1.frozen 3
      have gw84 := Kw8.out.2.1.frozen 4
      go_wp2_with fail
      refine (leading_any [] _ (by simp)).mono ?_
      rintro e w9 ⟨rfl, hb⟩
      rw [hlq]
      have HR9 := hide (HR8.out.below hb)
      clear HR8
      have Kw9 : Hid (Two w w9 g #[.int .i64 0, .int .i64 0, .int .i64 0, .string ⟨#[]⟩, .string (S MET)]) := Two.below Kw8.out hb
      clear aw80 gw80 aw81 gw81 aw82 gw82 aw83 gw83 aw84 gw84 hb
      obtain ⟨aw90, aw91, aw92, aw93, aw94⟩ := cells5 Kw9.out.2.1
      have gw90 := Kw9.out.2.1.frozen 0
      have gw91 := Kw9.out.2.1.frozen 1
      have gw92 := Kw9.out.2.1.frozen 2
      have gw93 := Kw9.out.2.1.frozen 3
      have gw94 := Kw9.out.2.1.frozen 4
      obtain ⟨ad, rfl, hK, hbk, hcs⟩ := HR9.out.2 (by omega)
      have hgad : g < ad.block := Nat.lt_of_lt_of_le (Blk.lt Kw3.out.2.1) hK
      have hga1 : ¬ g = ad.block := Nat.ne_of_lt hgad
      have hga2 : ¬ ad.block = g := fun e => hga1 e.symm
      clear hK
      rw [HH3.out] at hcs
      have c0 : w9.cell? ad = some (.string (S x0)) := hcs 0 _ rfl
      have c1 : w9.cell? ⟨ad.block, ad.off + 1, none⟩ = some (.string (S x1)) := hcs 1 _ rfl
      have c2 : w9.cell? ⟨ad.block, ad.off + 2, none⟩ = some (.string (S x2)) := hcs 2 _ rfl
      clear hcs
      have hz0 : ¬ (18 : Int) < (x0.length : Int) := by omega
      have hy0 : decide ((18 : Int) < (x0.length : Int)) = false := decide_eq_false hz0
      have hz1 : (18 : Int) < (x1.length : Int) := by omega
      have hy1 : decide ((18 : Int) < (x1.length : Int)) = true := decide_eq_true hz1
      have hfv := five (x0 := .int .i64 0) (x1 := .int .i64 0) (x2 := .int .i64 0) (x3 := .string ⟨#[]⟩) (x4 := .string (S MET)) Kw9.out.1 Kw9.out.2.2.1
      have f0 := Kw9.out.1.frozen 0
      have f1 := Kw9.out.1.frozen 1
      have f2 := Kw9.out.1.frozen 2
      have f3 := Kw9.out.1.frozen 3
      have f4 := Kw9.out.1.frozen 4
      obtain ⟨u0, u1, u2, u3, u4⟩ := cells5 Kw9.out.1
      obtain ⟨v0, v1, v2, v3, v4⟩ := cells5 hfv.1
      have HF := hide hfv.2
      clear hfv
      go_wp2
      refine bodyPost_ret (v := .tuple #[.agg #[.int .i64 0, .int .i64 0, .int .i64 0, .string ⟨#[]⟩, .string (S MET)], .int .i64 2]) ?_ rfl ?_
      · simp only [results, Tryd.f12]
        simp [go_sem, v0, v1, v2, v3, v4]
      · exact spec_is HP.out (v := ⟨0, 0, 0, [], MET⟩) rfl HF.out


set_option linter.unusedVariables false in
set_option linter.unusedSimpArgs false in
set_option maxHeartbeats 2000000 in
set_option maxRecDepth 100000 in
theorem spec_TF_5 (s : Bs) (w : World) (hl : s.length ≤ 8589934400) (c : UInt8) (hc : s[0]? = some c) (h118 : ¬ c = 118) (h86 : ¬ c = 86) (S1 MET : Bs) (k1 : Nat) (hk1 : fst 43 s = k1) (hlt1 : k1 < s.length) (hb1 : bef 43 s = S1) (ha1 : aft 43 s = MET) (hi1 : identsB MET = true) (hk2 : fst 45 S1 = S1.length) (hb2 : bef 45 S1 = S1) (ha2 : aft 45 S1 = []) (had : (dots S1).all digitsB = true) (x0 x1 x2 : Bs) (h3 : dots S1 = [x0, x1, x2]) (hls : leadingB S1 = false) (hlq : leadingB [] = false) (hg0 : x0.length ≤ 18) (hg1 : x1.length ≤ 18) (hg2 : 18 < x2.length) : Calls Tryd.prog 12 #[.string (S s)] w (SpecOut s w) := by
  have hle : s.isEmpty = false := by cases s with | nil => cases hc | cons _ _ => rfl
  have hix : ∀ W : World, (Instr.index 9 (.string (S s)) (.int .i64 0)).run Tryd.prog W = .ok (.int .u8 (c.toNat : Int)) W := index_S (l := s) (k := 0) hc
  have hlen : 0 < s.length := by cases s with | nil => cases hc | cons _ _ => simp
  have n1 : ((c.toNat : Int) == 118) = false := beq_eq_false_iff_ne.2 (fun e => h118 (UInt8.toNat_inj.1 (by have : (118 : UInt8).toNat = 118 := rfl; omega)))
  have n2 : ((c.toNat : Int) == 86) = false := beq_eq_false_iff_ne.2 (fun e => h86 (UInt8.toNat_inj.1 (by have : (86 : UInt8).toNat = 86 := rfl; omega)))
  have m1 : ¬ (c.toNat : Int) = 118 := by simpa using n1
  have m2 : ¬ (c.toNat : Int) = 86 := by simpa using n2
  have hv0 : ¬ (s.head? = some 118 ∨ s.head? = some 86) := by cases s with | nil => cases hc | cons d _ => (simp at hc ⊢; subst hc; exact ⟨h118, h86⟩)
  have hf1 : fnd 43 s = true := by unfold fnd; rw [hk1]; exact decide_eq_true hlt1
  have hsb1 := slice_bef hk1 hb1
  have hsa1 := slice_aft hk1 hlt1 ha1
  have hw1 : IntKind.i64.wrap ((k1 : Int) + 1) = (k1 : Int) + 1 := by rw [IntKind.wrap_i64]; omega
  have hl1 : S1.length ≤ s.length := by have := bef_len 43 s; rw [hb1] at this; exact this
  have hlm : MET.length ≤ s.length := by have := aft_len 43 s; rw [ha1] at this; exact this
  have hf2 : fnd 45 S1 = false := by unfold fnd; rw [hk2]; exact decide_eq_false (Nat.lt_irrefl _)
  have hl2 : S1.length ≤ S1.length := Nat.le_refl _
  have hp := specP_L hv0 (by rw [hf1, ha1, hi1]; rfl) (by rw [hb1, hf2]; rfl) (by rw [hb1, hb2]; exact had) (by rw [hb1, hb2, h3]; rfl) (by rw [hb1, hb2, ha2]; unfold long; rw [h3]; simp [List.any_cons, hg0, hg1, hg2])
  rw [hb1, ha1, ha2] at hp
  have HP := hide hp
  clear hp
  try clear hb1 ha1 hf1
  clear h118 h86 hc
  clear hv0
  try clear hb2 ha2 hf2
  have HH3 := hide h3
  clear h3
  have hk0 := Two.start w
  go_enter Tryd.func12, Tryd.ntmps12
  go_wp2_with fail
  generalize (w.alloc (.cells #[.int .i64 0, .int .i64 0, .int .i64 0, .string ⟨#[]⟩, .string ⟨#[]⟩] 26)).alloc (.cells #[.int .i64 0, .int .i64 0, .int .i64 0, .string ⟨#[]⟩, .string ⟨#[]⟩] 26) = W0 at *
  generalize w.heap.size + 1 = g at *
  have hgn := Nat.ne_of_lt hk0.2.2.2
  have hgm := hgn.symm
  have KW0 := hide hk0
  clear hk0
  obtain ⟨aW00, aW01, aW02, aW03, aW04⟩ := cells5 KW0.out.2.1
  have gW00 := KW0.out.2.1.frozen 0
  have gW01 := KW0.out.2.1.frozen 1
  have gW02 := KW0.out.2.1.frozen 2
  have gW03 := KW0.out.2.1.frozen 3
  have gW04 := KW0.out.2.1.frozen 4
  go_wp2_with fail
  refine (at_any 43 43 rfl s _ (by omega)).mono ?_
  rintro e w1 ⟨rfl, hw⟩
  have hb := below_of_eq hw
  clear hw
  have Kw1 : Hid (Two w w1 g #[.int .i64 0, .int .i64 0, .int .i64 0, .string ⟨#[]⟩, .string ⟨#[]⟩]) := Two.below KW0.out hb
  clear aW00 gW00 aW01 gW01 aW02 gW02 aW03 gW03 aW04 gW04 hb
  obtain ⟨aw10, aw11, aw12, aw13, aw14⟩ := cells5 Kw1.out.2.1
  have gw10 := Kw1.out.2.1.frozen 0
  have gw11 := Kw1.out.2.1.frozen 1
  have gw12 := Kw1.out.2.1.frozen 2
  have gw13 := Kw1.out.2.1.frozen 3
  have gw14 := Kw1.out.2.1.frozen 4
  rw [hk1]
  go_wp2
  go_region_held3 (fun w' => True) (trivial) (fail)
  go_wp2_with fail
  refine (identifiers_any MET _ (by omega)).mono ?_
  rintro e w2 ⟨rfl, hb⟩
  have Kw2 : Hid (Two w w2 g #[.int .i64 0, .int .i64 0, .int .i64 0, .string ⟨#[]⟩, .string (S MET)]) := Two.below (Two.drew (Two.put Kw1.out 4 (.string (S MET)))) hb
  clear aw10 gw10 aw11 gw11 aw12 gw12 aw13 gw13 aw14 gw14 hb
  obtain ⟨aw20, aw21, aw22, aw23, aw24⟩ := cells5 Kw2.out.2.1
  have gw20 := Kw2.out.2.1.frozen 0
  have gw21 := Kw2.out.2.1.frozen 1
  have gw22 := Kw2.out.2.1.frozen 2
  have gw23 := Kw2.out.2.1.frozen 3
  have gw24 := Kw2.out.2.1.frozen 4
  rw [hi1]
  go_wp2_with fail
  refine (at_any 45 45 rfl S1 _ (by omega)).mono ?_
  rintro e w3 ⟨rfl, hw⟩
  have hb := below_of_eq hw
  clear hw
  have Kw3 : Hid (Two w w3 g #[.int .i64 0, .int .i64 0, .int .i64 0, .string ⟨#[]⟩, .string (S MET)]) := Two.below Kw2.out hb
  clear aw20 gw20 aw21 gw21 aw22 gw22 aw23 gw23 aw24 gw24 hb
  obtain ⟨aw30, aw31, aw32, aw33, aw34⟩ := cells5 Kw3.out.2.1
  have gw30 := Kw3.out.2.1.frozen 0
  have gw31 := Kw3.out.2.1.frozen 1
  have gw32 := Kw3.out.2.1.frozen 2
  have gw33 := Kw3.out.2.1.frozen 3
  have gw34 := Kw3.out.2.1.frozen 4
  rw [hk2]
  go_wp2_with fail
  refine (split_any S1 _ (by omega)).mono ?_
  rintro e w5 ⟨A, cc, rfl, hr, _, _, hb⟩
  have HR := hide hr
  clear hr
  have hnl := dots_length S1
  have HMEM := hide (dots_mem S1)
  have HAD := hide had
  clear had
  obtain ⟨n, hn⟩ : ∃ n, n = (dots S1).length := ⟨_, rfl⟩
  rw [← hn] at HR hnl ⊢
  have HN := hide hn
  clear hn
  have Kw5 : Hid (Two w w5 g #[.int .i64 0, .int .i64 0, .int .i64 0, .string ⟨#[]⟩, .string (S MET)]) := Two.below Kw3.out hb
  clear aw30 gw30 aw31 gw31 aw32 gw32 aw33 gw33 aw34 gw34 hb
  obtain ⟨aw50, aw51, aw52, aw53, aw54⟩ := cells5 Kw5.out.2.1
  have gw50 := Kw5.out.2.1.frozen 0
  have gw51 := Kw5.out.2.1.frozen 1
  have gw52 := Kw5.out.2.1.frozen 2
  have gw53 := Kw5.out.2.1.frozen 3
  have gw54 := Kw5.out.2.1.frozen 4
  go_wp2
  go_loopw [65] (fun i wr => ∃ j : Nat, j ≤ n ∧ i = .int .i64 j ∧ wr = w5 ∧ Hid (((dots S1).take j).all digitsB = true)) (fun i _ => n - (intOf i).toNat)
  case atStart => exact ⟨0, Nat.zero_le _, rfl, rfl, rfl⟩
  case round =>
    obtain ⟨j, hj, rfl, hwr, HA⟩ := hrel
    subst hwr
    by_cases hlt : j < n
    · obtain ⟨ad, u, rfl, _, hx, hcx⟩ := HR.out.at_ hlt
      obtain ⟨x, hxx, rfl⟩ := strs_at hx
      have hxl := (HMEM.out x (mem_at hxx)).2
      have HX := hide hxx
      clear hx hxx
      cases hd : digitsB x
      · exfalso
        have h1 := List.all_eq_true.1 HAD.out x (mem_at HX.out)
        rw [hd] at h1
        cases h1

      · go_wp2_with fail
        refine (digits_any x _ (by omega)).mono ?_
        rintro e w6 ⟨rfl, rfl⟩
        rw [hd]
        have HD := hide hd
        clear hd
        go_wp2
        go_roundw
        case measure => simp [intOf]; omega
        case rel =>
          refine ⟨j + 1, by omega, by go_num, trivial, ?_⟩
          show _ = _
          rw [take_succ HX.out, List.all_append, HA.out]
          simp [HD.out]
    · obtain rfl : j = n := by omega
      obtain rfl : j = 3 := by have := HN.out; rw [HH3.out] at this; exact this
      have hxl0 := (HMEM.out x0 (by rw [HH3.out]; simp)).2
      have hxl1 := (HMEM.out x1 (by rw [HH3.out]; simp)).2
      have hxl2 := (HMEM.out x2 (by rw [HH3.out]; simp)).2
      go_wp2_with fail
      refine (leading_any S1 _ (by omega)).mono ?_
      rintro e w8 ⟨rfl, hb⟩
      rw [hls]
      have HR8 := hide (HR.out.below hb)
      clear HR
      have Kw8 : Hid (Two w w8 g #[.int .i64 0, .int .i64 0, .int .i64 0, .string ⟨#[]⟩, .string (S MET)]) := Two.below Kw5.out hb
      clear aw50 gw50 aw51 gw51 aw52 gw52 aw53 gw53 aw54 gw54 hb
      obtain ⟨aw80, aw81, aw82, aw83, aw84⟩ := cells5 Kw8.out.2.1
      have gw80 := Kw8.out.2.1.frozen 0
      have gw81 := Kw8.out.2.1.frozen 1
      have gw82 := Kw8.out.2.1.frozen 2
      have gw83 := Kw8.out.2.1.frozen 3
      have gw84 := Kw8.out.2.1.frozen 4
      go_wp2_with fail
      refine (leading_any [] _ (by simp)).mono ?_
      rintro e w9 ⟨rfl, hb⟩
      rw [hlq]
      have HR9 := hide (HR8.out.below hb)
      clear HR8
      have Kw9 : Hid (Two w w9 g #[.int .i64 0, .int .i64 0, .int .i64 0, .string ⟨#[]⟩, .string (S MET)]) := Two.below Kw8.out hb
      clear aw80 gw80 aw81 gw81 aw82 gw82 aw83 gw83 aw84 gw84 hb
      obtain ⟨aw90, aw91, aw92, aw93, aw94⟩ := cells5 Kw9.out.2.1
      have gw90 := Kw9.out.2.1.frozen 0
      have gw91 := Kw9.out.2.1.frozen 1
      have gw92 := Kw9.out.2.1.frozen 2
      have gw93 := Kw9.out.2.1.frozen 3
      have gw94 := Kw9.out.2.1.frozen 4
      obtain ⟨ad, rfl, hK, hbk, hcs⟩ := HR9.out.2 (by omega)
      have hgad : g < ad.block := Nat.lt_of_lt_of_le (Blk.lt Kw3.out.2.1) hK
      have hga1 : ¬ g = ad.block := Nat.ne_of_lt hgad
      have hga2 : ¬ ad.block = g := fun e => hga1 e.symm
      clear hK
      rw [HH3.out] at hcs
      have c0 : w9.cell? ad = some (.string (S x0)) := hcs 0 _ rfl
      have c1 : w9.cell? ⟨ad.block, ad.off + 1, none⟩ = some (.string (S x1)) := hcs 1 _ rfl
      have c2 : w9.cell? ⟨ad.block, ad.off + 2, none⟩ = some (.string (S x2)) := hcs 2 _ rfl
      clear hcs
      have hz0 : ¬ (18 : Int) < (x0.length : Int) := by omega
      have hy0 : decide ((18 : Int) < (x0.length : Int)) = false := decide_eq_false hz0
      have hz1 : ¬ (18 : Int) < (x1.length : Int) := by omega
      have hy1 : decide ((18 : Int) < (x1.length : Int)) = false := decide_eq_false hz1
      have hz2 : (18 : Int) < (x2.length : Int) := by omega
      have hy2 : decide ((18 : Int) < (x2.length : Int)) = true := decide_eq_true hz2
      have hfv := five (x0 := .int .i64 0) (x1 := .int .i64 0) (x2 := .int .i64 0) (x3 := .string ⟨#[]⟩) (x4 := .string (S MET)) Kw9.out.1 Kw9.out.2.2.1
      have f0 := Kw9.out.1.frozen 0
      have f1 := Kw9.out.1.frozen 1
      have f2 := Kw9.out.1.frozen 2
      have f3 := Kw9.out.1.frozen 3
      have f4 := Kw9.out.1.frozen 4
      obtain ⟨u0, u1, u2, u3, u4⟩ := cells5 Kw9.out.1
      obtain ⟨v0, v1, v2, v3, v4⟩ := cells5 hfv.1
      have HF := hide hfv.2
      clear hfv
      go_wp2
      refine bodyPost_ret (v := .tuple #[.agg #[.int .i64 0, .int .i64 0, .int .i64 0, .string ⟨#[]⟩, .string (S MET)], .int .i64 2]) ?_ rfl ?_
      · simp only [results, Tryd.f12]
        simp [go_sem, v0, v1, v2, v3, v4]
      · exact spec_is HP.out (v := ⟨0, 0, 0, [], MET⟩) rfl HF.out


set_option linter.unusedVariables false in
set_option linter.unusedSimpArgs false in
set_option maxHeartbeats 2000000 in
set_option maxRecDepth 100000 in
theorem spec_TF_O (s : Bs) (w : World) (hl : s.length ≤ 8589934400) (c : UInt8) (hc : s[0]? = some c) (h118 : ¬ c = 118) (h86 : ¬ c = 86) (S1 MET : Bs) (k1 : Nat) (hk1 : fst 43 s = k1) (hlt1 : k1 < s.length) (hb1 : bef 43 s = S1) (ha1 : aft 43 s = MET) (hi1 : identsB MET = true) (hk2 : fst 45 S1 = S1.length) (hb2 : bef 45 S1 = S1) (ha2 : aft 45 S1 = []) (had : (dots S1).all digitsB = true) (x0 x1 x2 : Bs) (h3 : dots S1 = [x0, x1, x2]) (hls : leadingB S1 = false) (hlq : leadingB [] = false) (hg0 : x0.length ≤ 18) (hg1 : x1.length ≤ 18) (hg2 : x2.length ≤ 18) : Calls Tryd.prog 12 #[.string (S s)] w (SpecOut s w) := by
  have hle : s.isEmpty = false := by cases s with | nil => cases hc | cons _ _ => rfl
  have hix : ∀ W : World, (Instr.index 9 (.string (S s)) (.int .i64 0)).run Tryd.prog W = .ok (.int .u8 (c.toNat : Int)) W := index_S (l := s) (k := 0) hc
  have hlen : 0 < s.length := by cases s with | nil => cases hc | cons _ _ => simp
  have n1 : ((c.toNat : Int) == 118) = false := beq_eq_false_iff_ne.2 (fun e => h118 (UInt8.toNat_inj.1 (by have : (118 : UInt8).toNat = 118 := rfl; omega)))
  have n2 : ((c.toNat : Int) == 86) = false := beq_eq_false_iff_ne.2 (fun e => h86 (UInt8.toNat_inj.1 (by have : (86 : UInt8).toNat = 86 := rfl; omega)))
  have m1 : ¬ (c.toNat : Int) = 118 := by simpa using n1
  have m2 : ¬ (c.toNat : Int) = 86 := by simpa using n2
  have hv0 : ¬ (s.head? = some 118 ∨ s.head? = some 86) := by cases s with | nil => cases hc | cons d _ => (simp at hc ⊢; subst hc; exact ⟨h118, h86⟩)
  have hf1 : fnd 43 s = true := by unfold fnd; rw [hk1]; exact decide_eq_true hlt1
  have hsb1 := slice_bef hk1 hb1
  have hsa1 := slice_aft hk1 hlt1 ha1
  have hw1 : IntKind.i64.wrap ((k1 : Int) + 1) = (k1 : Int) + 1 := by rw [IntKind.wrap_i64]; omega
  have hl1 : S1.length ≤ s.length := by have := bef_len 43 s; rw [hb1] at this; exact this
  have hlm : MET.length ≤ s.length := by have := aft_len 43 s; rw [ha1] at this; exact this
  have hf2 : fnd 45 S1 = false := by unfold fnd; rw [hk2]; exact decide_eq_false (Nat.lt_irrefl _)
  have hl2 : S1.length ≤ S1.length := Nat.le_refl _
  have hd0 : x0.all isDig = true := digits_all (List.all_eq_true.1 had x0 (by rw [h3]; simp))
  have hd1 : x1.all isDig = true := digits_all (List.all_eq_true.1 had x1 (by rw [h3]; simp))
  have hd2 : x2.all isDig = true := digits_all (List.all_eq_true.1 had x2 (by rw [h3]; simp))
  have q0 := fun W => number_any x0 W hd0 hg0
  have q1 := fun W => number_any x1 W hd1 hg1
  have q2 := fun W => number_any x2 W hd2 hg2
  have hp := specP_O hv0 (by rw [hf1, ha1, hi1]; rfl) (by rw [hb1, hf2]; rfl) (by rw [hb1, hb2]; exact had) (by rw [hb1, hb2]; exact h3) (by rw [hb1, hb2, ha2]; unfold long; rw [hls, hlq, h3]; simp [List.any_cons, hg0, hg1, hg2])
  rw [hb1, ha1, ha2] at hp
  have HP := hide hp
  clear hp
  try clear hb1 ha1 hf1
  clear h118 h86 hc
  clear hv0
  try clear hb2 ha2 hf2
  have HH3 := hide h3
  clear h3
  have hk0 := Two.start w
  go_enter Tryd.func12, Tryd.ntmps12
  go_wp2_with fail
  generalize (w.alloc (.cells #[.int .i64 0, .int .i64 0, .int .i64 0, .string ⟨#[]⟩, .string ⟨#[]⟩] 26)).alloc (.cells #[.int .i64 0, .int .i64 0, .int .i64 0, .string ⟨#[]⟩, .string ⟨#[]⟩] 26) = W0 at *
  generalize w.heap.size + 1 = g at *
  have hgn := Nat.ne_of_lt hk0.2.2.2
  have hgm := hgn.symm
  have KW0 := hide hk0
  clear hk0
  obtain ⟨aW00, aW01, aW02, aW03, aW04⟩ := cells5 KW0.out.2.1
  have gW00 := KW0.out.2.1.frozen 0
  have gW01 := KW0.out.2.1.frozen 1
  have gW02 := KW0.out.2.1.frozen 2
  have gW03 := KW0.out.2.1.frozen 3
  have gW04 := KW0.out.2.1.frozen 4
  go_wp2_with fail
  refine (at_any 43 43 rfl s _ (by omega)).mono ?_
  rintro e w1 ⟨rfl, hw⟩
  have hb := below_of_eq hw
  clear hw
  have Kw1 : Hid (Two w w1 g #[.int .i64 0, .int .i64 0, .int .i64 0, .string ⟨#[]⟩, .string ⟨#[]⟩]) := Two.below KW0.out hb
  clear aW00 gW00 aW01 gW01 aW02 gW02 aW03 gW03 aW04 gW04 hb
  obtain ⟨aw10, aw11, aw12, aw13, aw14⟩ := cells5 Kw1.out.2.1
  have gw10 := Kw1.out.2.1.frozen 0
  have gw11 := Kw1.out.2.1.frozen 1
  have gw12 := Kw1.out.2.1.frozen 2
  have gw13 := Kw1.out.2.1.frozen 3
  have gw14 := Kw1.out.2.1.frozen 4
  rw [hk1]
  go_wp2
  go_region_held3 (fun w' => True) (trivial) (fail)
  go_wp2_with fail
  refine (identifiers_any MET _ (by omega)).mono ?_
  rintro e w2 ⟨rfl, hb⟩
  have Kw2 : Hid (Two w w2 g #[.int .i64 0, .int .i64 0, .int .i64 0, .string ⟨#[]⟩, .string (S MET)]) := Two.below (Two.drew (Two.put Kw1.out 4 (.string (S MET)))) hb
  clear aw10 gw10 aw11 gw11 aw12 gw12 aw13 gw13 aw14 gw14 hb
  obtain ⟨aw20, aw21, aw22, aw23, aw24⟩ := cells5 Kw2.out.2.1
  have gw20 := Kw2.out.2.1.frozen 0
  have gw21 := Kw2.out.2.1.frozen 1
  have gw22 := Kw2.out.2.1.frozen 2
  have gw23 := Kw2.out.2.1.frozen 3
  have gw24 := Kw2.out.2.1.frozen 4
  rw [hi1]
  go_wp2_with fail
  refine (at_any 45 45 rfl S1 _ (by omega)).mono ?_
  rintro e w3 ⟨rfl, hw⟩
  have hb := below_of_eq hw
  clear hw
  have Kw3 : Hid (Two w w3 g #[.int .i64 0, .int .i64 0, .int .i64 0, .string ⟨#[]⟩, .string (S MET)]) := Two.below Kw2.out hb
  clear aw20 gw20 aw21 gw21 aw22 gw22 aw23 gw23 aw24 gw24 hb
  obtain ⟨aw30, aw31, aw32, aw33, aw34⟩ := cells5 Kw3.out.2.1
  have gw30 := Kw3.out.2.1.frozen 0
  have gw31 := Kw3.out.2.1.frozen 1
  have gw32 := Kw3.out.2.1.frozen 2
  have gw33 := Kw3.out.2.1.frozen 3
  have gw34 := Kw3.out.2.1.frozen 4
  rw [hk2]
  go_wp2_with fail
  refine (split_any S1 _ (by omega)).mono ?_
  rintro e w5 ⟨A, cc, rfl, hr, _, _, hb⟩
  have HR := hide hr
  clear hr
  have hnl := dots_length S1
  have HMEM := hide (dots_mem S1)
  have HAD := hide had
  clear had
  obtain ⟨n, hn⟩ : ∃ n, n = (dots S1).length := ⟨_, rfl⟩
  rw [← hn] at HR hnl ⊢
  have HN := hide hn
  clear hn
  have Kw5 : Hid (Two w w5 g #[.int .i64 0, .int .i64 0, .int .i64 0, .string ⟨#[]⟩, .string (S MET)]) := Two.below Kw3.out hb
  clear aw30 gw30 aw31 gw31 aw32 gw32 aw33 gw33 aw34 gw34 hb
  obtain ⟨aw50, aw51, aw52, aw53, aw54⟩ := cells5 Kw5.out.2.1
  have gw50 := Kw5.out.2.1.frozen 0
  have gw51 := Kw5.out.2.1.frozen 1
  have gw52 := Kw5.out.2.1.frozen 2
  have gw53 := Kw5.out.2.1.frozen 3
  have gw54 := Kw5.out.2.1.frozen 4
  go_wp2
  go_loopw [65] (fun i wr => ∃ j : Nat, j ≤ n ∧ i = .int .i64 j ∧ wr = w5 ∧ Hid (((dots S1).take j).all digitsB = true)) (fun i _ => n - (intOf i).toNat)
  case atStart => exact ⟨0, Nat.zero_le _, rfl, rfl, rfl⟩
  case round =>
    obtain ⟨j, hj, rfl, hwr, HA⟩ := hrel
    subst hwr
    by_cases hlt : j < n
    · obtain ⟨ad, u, rfl, _, hx, hcx⟩ := HR.out.at_ hlt
      obtain ⟨x, hxx, rfl⟩ := strs_at hx
      have hxl := (HMEM.out x (mem_at hxx)).2
      have HX := hide hxx
      clear hx hxx
      cases hd : digitsB x
      · exfalso
        have h1 := List.all_eq_true.1 HAD.out x (mem_at HX.out)
        rw [hd] at h1
        cases h1

      · go_wp2_with fail
        refine (digits_any x _ (by omega)).mono ?_
        rintro e w6 ⟨rfl, rfl⟩
        rw [hd]
        have HD := hide hd
        clear hd
        go_wp2
        go_roundw
        case measure => simp [intOf]; omega
        case rel =>
          refine ⟨j + 1, by omega, by go_num, trivial, ?_⟩
          show _ = _
          rw [take_succ HX.out, List.all_append, HA.out]
          simp [HD.out]
    · obtain rfl : j = n := by omega
      obtain rfl : j = 3 := by have := HN.out; rw [HH3.out] at this; exact this
      have hxl0 := (HMEM.out x0 (by rw [HH3.out]; simp)).2
      have hxl1 := (HMEM.out x1 (by rw [HH3.out]; simp)).2
      have hxl2 := (HMEM.out x2 (by rw [HH3.out]; simp)).2
      go_wp2_with fail
      refine (leading_any S1 _ (by omega)).mono ?_
      rintro e w8 ⟨rfl, hb⟩
      rw [hls]
      have HR8 := hide (HR.out.below hb)
      clear HR
      have Kw8 : Hid (Two w w8 g #[.int .i64 0, .int .i64 0, .int .i64 0, .string ⟨#[]⟩, .string (S MET)]) := Two.below Kw5.out hb
      clear aw50 gw50 aw51 gw51 aw52 gw52 aw53 gw53 aw54 gw54 hb
      obtain ⟨aw80, aw81, aw82, aw83, aw84⟩ := cells5 Kw8.out.2.1
      have gw80 := Kw8.out.2.1.frozen 0
      have gw81 := Kw8.out.2.1.frozen 1
      have gw82 := Kw8.out.2.1.frozen 2
      have gw83 := Kw8.out.2.1.frozen 3
      have gw84 := Kw8.out.2.1.frozen 4
      go_wp2_with fail
      refine (leading_any [] _ (by simp)).mono ?_
      rintro e w9 ⟨rfl, hb⟩
      rw [hlq]
      have HR9 := hide (HR8.out.below hb)
      clear HR8
      have Kw9 : Hid (Two w w9 g #[.int .i64 0, .int .i64 0, .int .i64 0, .string ⟨#[]⟩, .string (S MET)]) := Two.below Kw8.out hb
      clear aw80 gw80 aw81 gw81 aw82 gw82 aw83 gw83 aw84 gw84 hb
      obtain ⟨aw90, aw91, aw92, aw93, aw94⟩ := cells5 Kw9.out.2.1
      have gw90 := Kw9.out.2.1.frozen 0
      have gw91 := Kw9.out.2.1.frozen 1
      have gw92 := Kw9.out.2.1.frozen 2
      have gw93 := Kw9.out.2.1.frozen 3
      have gw94 := Kw9.out.2.1.frozen 4
      obtain ⟨ad, rfl, hK, hbk, hcs⟩ := HR9.out.2 (by omega)
      have hgad : g < ad.block := Nat.lt_of_lt_of_le (Blk.lt Kw3.out.2.1) hK
      have hga1 : ¬ g = ad.block := Nat.ne_of_lt hgad
      have hga2 : ¬ ad.block = g := fun e => hga1 e.symm
      clear hK
      rw [HH3.out] at hcs
      have c0 : w9.cell? ad = some (.string (S x0)) := hcs 0 _ rfl
      have c1 : w9.cell? ⟨ad.block, ad.off + 1, none⟩ = some (.string (S x1)) := hcs 1 _ rfl
      have c2 : w9.cell? ⟨ad.block, ad.off + 2, none⟩ = some (.string (S x2)) := hcs 2 _ rfl
      clear hcs
      have hz0 : ¬ (18 : Int) < (x0.length : Int) := by omega
      have hy0 : decide ((18 : Int) < (x0.length : Int)) = false := decide_eq_false hz0
      have hz1 : ¬ (18 : Int) < (x1.length : Int) := by omega
      have hy1 : decide ((18 : Int) < (x1.length : Int)) = false := decide_eq_false hz1
      have hz2 : ¬ (18 : Int) < (x2.length : Int) := by omega
      have hy2 : decide ((18 : Int) < (x2.length : Int)) = false := decide_eq_false hz2
      go_wp2
      go_region_held3 (fun w' => w'.cell? ad = some (.string (S x0)) ∧ w'.cell? ⟨ad.block, ad.off + 1, none⟩ = some (.string (S x1)) ∧ w'.cell? ⟨ad.block, ad.off + 2, none⟩ = some (.string (S x2))) (first | exact ⟨c0, c1, c2⟩ | go_keep)
        (first
          | (go_at_call 26
             with_reducible refine (q0 _).mono ?_
             rintro e we ⟨rfl, rfl⟩)
          | (go_at_call 26
             with_reducible refine (q1 _).mono ?_
             rintro e we ⟨rfl, rfl⟩)
          | (go_at_call 26
             with_reducible refine (q2 _).mono ?_
             rintro e we ⟨rfl, rfl⟩)
          | fail)
      have hkz : Two w (((w9.setCell ⟨g, 0, none⟩ (.int .i64 (numB x0))).setCell ⟨g, 1, none⟩ (.int .i64 (numB x1))).setCell ⟨g, 2, none⟩ (.int .i64 (numB x2))).drew g #[.int .i64 (numB x0), .int .i64 (numB x1), .int .i64 (numB x2), .string ⟨#[]⟩, .string (S MET)] := (Two.drew (Two.put (Two.put (Two.put Kw9.out 0 (.int .i64 (numB x0))) 1 (.int .i64 (numB x1))) 2 (.int .i64 (numB x2))))
      clear aw90 gw90 aw91 gw91 aw92 gw92 aw93 gw93 aw94 gw94 c0 c1 c2
      generalize (((w9.setCell ⟨g, 0, none⟩ (.int .i64 (numB x0))).setCell ⟨g, 1, none⟩ (.int .i64 (numB x1))).setCell ⟨g, 2, none⟩ (.int .i64 (numB x2))).drew = wz at *
      have Kwz := hide hkz
      clear hkz
      obtain ⟨awz0, awz1, awz2, awz3, awz4⟩ := cells5 Kwz.out.2.1
      have gwz0 := Kwz.out.2.1.frozen 0
      have gwz1 := Kwz.out.2.1.frozen 1
      have gwz2 := Kwz.out.2.1.frozen 2
      have gwz3 := Kwz.out.2.1.frozen 3
      have gwz4 := Kwz.out.2.1.frozen 4
      have hfv := five (x0 := .int .i64 (numB x0)) (x1 := .int .i64 (numB x1)) (x2 := .int .i64 (numB x2)) (x3 := .string ⟨#[]⟩) (x4 := .string (S MET)) Kwz.out.1 Kwz.out.2.2.1
      have f0 := Kwz.out.1.frozen 0
      have f1 := Kwz.out.1.frozen 1
      have f2 := Kwz.out.1.frozen 2
      have f3 := Kwz.out.1.frozen 3
      have f4 := Kwz.out.1.frozen 4
      obtain ⟨u0, u1, u2, u3, u4⟩ := cells5 Kwz.out.1
      obtain ⟨v0, v1, v2, v3, v4⟩ := cells5 hfv.1
      have HF := hide hfv.2
      clear hfv
      go_wp2
      refine bodyPost_ret (v := .tuple #[.agg #[.int .i64 (numB x0), .int .i64 (numB x1), .int .i64 (numB x2), .string ⟨#[]⟩, .string (S MET)], .int .i64 1]) ?_ rfl ?_
      · simp only [results, Tryd.f12]
        simp [go_sem, v0, v1, v2, v3, v4]
      · exact spec_is HP.out (v := ⟨(numB x0), (numB x1), (numB x2), [], MET⟩) rfl HF.out


end Go.Proofs.YtaoeelhgfdknfaaDoor
