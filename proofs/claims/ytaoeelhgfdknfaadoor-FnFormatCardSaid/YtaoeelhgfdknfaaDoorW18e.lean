/- A part of spec.Parse: the texts that begin with v, and the empty one. Printed by gen_w17.py. -/
import Derived.Test.YtaoeelhgfdknfaaDoorW17
import Derived.Deep.Cut
namespace Go.Proofs.YtaoeelhgfdknfaaDoor
open Go.RowKit

attribute [local go_sem] S_size S_toList E_toList S_extract

set_option linter.unusedVariables false in
set_option linter.unusedSimpArgs false in
set_option maxHeartbeats 2000000 in
set_option maxRecDepth 100000 in
theorem spec_V118 (s : Bs) (w : World) (hc : s[0]? = some 118) : Calls Tryd.prog 12 #[.string (S s)] w (SpecOut s w) := by
  have hle : s.isEmpty = false := by cases s with | nil => cases hc | cons _ _ => rfl
  have hix : ∀ W : World, (Instr.index 9 (.string (S s)) (.int .i64 0)).run Tryd.prog W = .ok (.int .u8 118) W := index_S (l := s) (k := 0) hc
  have hlen : 0 < s.length := by cases s with | nil => cases hc | cons _ _ => simp
  have hp : specP s = (⟨0, 0, 0, [], []⟩, 2) := by
    have hv : s.head? = some 118 ∨ s.head? = some 86 := by cases s with | nil => cases hc | cons d _ => (simp at hc ⊢; simp [hc])
    unfold specP; rw [if_pos hv]
  have HP := hide hp
  clear hp hc
  have hk0 := Two.start w
  go_enter Tryd.func12, Tryd.ntmps12
  go_upto_region 2 with (fail)
  generalize (w.alloc (.cells #[.int .i64 0, .int .i64 0, .int .i64 0, .string ⟨#[]⟩, .string ⟨#[]⟩] 26)).alloc (.cells #[.int .i64 0, .int .i64 0, .int .i64 0, .string ⟨#[]⟩, .string ⟨#[]⟩] 26) = W0 at *
  generalize w.heap.size + 1 = g at *
  have hgn := Nat.ne_of_lt hk0.2.2.2
  have hgm := hgn.symm
  have KW0 := hide hk0
  clear hk0
  obtain ⟨aW00, aW01, aW02, aW03, aW04⟩ := cells5 KW0.out.2.1
  have gW00 := KW0.out.2.1.frozen 0
  have gW01 := KW0.out.2.1.frozen 1
  have gW02 := KW0.out.2.1.frozen 2
  have gW03 := KW0.out.2.1.frozen 3
  have gW04 := KW0.out.2.1.frozen 4
  have hfv := five (x0 := .int .i64 0) (x1 := .int .i64 0) (x2 := .int .i64 0) (x3 := .string ⟨#[]⟩) (x4 := .string ⟨#[]⟩) KW0.out.1 KW0.out.2.2.1
  have f0 := KW0.out.1.frozen 0
  have f1 := KW0.out.1.frozen 1
  have f2 := KW0.out.1.frozen 2
  have f3 := KW0.out.1.frozen 3
  have f4 := KW0.out.1.frozen 4
  obtain ⟨u0, u1, u2, u3, u4⟩ := cells5 KW0.out.1
  obtain ⟨v0, v1, v2, v3, v4⟩ := cells5 hfv.1
  have HF := hide hfv.2
  clear hfv
  go_wp2
  refine bodyPost_ret (v := .tuple #[.agg #[.int .i64 0, .int .i64 0, .int .i64 0, .string ⟨#[]⟩, .string ⟨#[]⟩], .int .i64 2]) ?_ rfl ?_
  · simp only [results, Tryd.f12]
    simp [go_sem, v0, v1, v2, v3, v4]
  · exact spec_is HP.out (v := ⟨0, 0, 0, [], []⟩) rfl HF.out

set_option linter.unusedVariables false in
set_option linter.unusedSimpArgs false in
set_option maxHeartbeats 2000000 in
set_option maxRecDepth 100000 in
theorem spec_V86 (s : Bs) (w : World) (hc : s[0]? = some 86) : Calls Tryd.prog 12 #[.string (S s)] w (SpecOut s w) := by
  have hle : s.isEmpty = false := by cases s with | nil => cases hc | cons _ _ => rfl
  have hix : ∀ W : World, (Instr.index 9 (.string (S s)) (.int .i64 0)).run Tryd.prog W = .ok (.int .u8 86) W := index_S (l := s) (k := 0) hc
  have hlen : 0 < s.length := by cases s with | nil => cases hc | cons _ _ => simp
  have hp : specP s = (⟨0, 0, 0, [], []⟩, 2) := by
    have hv : s.head? = some 118 ∨ s.head? = some 86 := by cases s with | nil => cases hc | cons d _ => (simp at hc ⊢; simp [hc])
    unfold specP; rw [if_pos hv]
  have HP := hide hp
  clear hp hc
  have hk0 := Two.start w
  go_enter Tryd.func12, Tryd.ntmps12
  go_upto_region 2 with (fail)
  generalize (w.alloc (.cells #[.int .i64 0, .int .i64 0, .int .i64 0, .string ⟨#[]⟩, .string ⟨#[]⟩] 26)).alloc (.cells #[.int .i64 0, .int .i64 0, .int .i64 0, .string ⟨#[]⟩, .string ⟨#[]⟩] 26) = W0 at *
  generalize w.heap.size + 1 = g at *
  have hgn := Nat.ne_of_lt hk0.2.2.2
  have hgm := hgn.symm
  have KW0 := hide hk0
  clear hk0
  obtain ⟨aW00, aW01, aW02, aW03, aW04⟩ := cells5 KW0.out.2.1
  have gW00 := KW0.out.2.1.frozen 0
  have gW01 := KW0.out.2.1.frozen 1
  have gW02 := KW0.out.2.1.frozen 2
  have gW03 := KW0.out.2.1.frozen 3
  have gW04 := KW0.out.2.1.frozen 4
  have hfv := five (x0 := .int .i64 0) (x1 := .int .i64 0) (x2 := .int .i64 0) (x3 := .string ⟨#[]⟩) (x4 := .string ⟨#[]⟩) KW0.out.1 KW0.out.2.2.1
  have f0 := KW0.out.1.frozen 0
  have f1 := KW0.out.1.frozen 1
  have f2 := KW0.out.1.frozen 2
  have f3 := KW0.out.1.frozen 3
  have f4 := KW0.out.1.frozen 4
  obtain ⟨u0, u1, u2, u3, u4⟩ := cells5 KW0.out.1
  obtain ⟨v0, v1, v2, v3, v4⟩ := cells5 hfv.1
  have HF := hide hfv.2
  clear hfv
  go_wp2
  refine bodyPost_ret (v := .tuple #[.agg #[.int .i64 0, .int .i64 0, .int .i64 0, .string ⟨#[]⟩, .string ⟨#[]⟩], .int .i64 2]) ?_ rfl ?_
  · simp only [results, Tryd.f12]
    simp [go_sem, v0, v1, v2, v3, v4]
  · exact spec_is HP.out (v := ⟨0, 0, 0, [], []⟩) rfl HF.out

set_option linter.unusedVariables false in
set_option linter.unusedSimpArgs false in
set_option maxHeartbeats 2000000 in
set_option maxRecDepth 100000 in
theorem spec_FF_De (s : Bs) (w : World) (hl : s.length ≤ 8589934400) (he : s.isEmpty = true) (hk1 : fst 43 s = s.length) (hb1 : bef 43 s = s) (ha1 : aft 43 s = []) (hk2 : fst 45 s = s.length) (hb2 : bef 45 s = s) (ha2 : aft 45 s = []) (had : (dots s).all digitsB = false) : Calls Tryd.prog 12 #[.string (S s)] w (SpecOut s w) := by
  have hv0 : ¬ (s.head? = some 118 ∨ s.head? = some 86) := by cases s with | nil => simp | cons _ _ => cases he
  have hf1 : fnd 43 s = false := by unfold fnd; rw [hk1]; exact decide_eq_false (Nat.lt_irrefl _)
  have hl1 : s.length ≤ s.length := Nat.le_refl _
  have hf2 : fnd 45 s = false := by unfold fnd; rw [hk2]; exact decide_eq_false (Nat.lt_irrefl _)
  have hl2 : s.length ≤ s.length := Nat.le_refl _
  have hp := specP_D hv0 (by rw [hf1]; rfl) (by rw [hb1, hf2]; rfl) (by rw [hb1, hb2]; exact had)
  rw [hb1, ha1, ha2] at hp
  have HP := hide hp
  clear hp
  try clear hb1 ha1 hf1
  clear hv0
  try clear hb2 ha2 hf2
  have hk0 := Two.start w
  go_enter Tryd.func12, Tryd.ntmps12
  go_wp2_with fail
  generalize (w.alloc (.cells #[.int .i64 0, .int .i64 0, .int .i64 0, .string ⟨#[]⟩, .string ⟨#[]⟩] 26)).alloc (.cells #[.int .i64 0, .int .i64 0, .int .i64 0, .string ⟨#[]⟩, .string ⟨#[]⟩] 26) = W0 at *
  generalize w.heap.size + 1 = g at *
  have hgn := Nat.ne_of_lt hk0.2.2.2
  have hgm := hgn.symm
  have KW0 := hide hk0
  clear hk0
  obtain ⟨aW00, aW01, aW02, aW03, aW04⟩ := cells5 KW0.out.2.1
  have gW00 := KW0.out.2.1.frozen 0
  have gW01 := KW0.out.2.1.frozen 1
  have gW02 := KW0.out.2.1.frozen 2
  have gW03 := KW0.out.2.1.frozen 3
  have gW04 := KW0.out.2.1.frozen 4
  go_wp2_with fail
  refine (at_any 43 43 rfl s _ (by omega)).mono ?_
  rintro e w1 ⟨rfl, hw⟩
  have hb := below_of_eq hw
  clear hw
  have Kw1 : Hid (Two w w1 g #[.int .i64 0, .int .i64 0, .int .i64 0, .string ⟨#[]⟩, .string ⟨#[]⟩]) := Two.below KW0.out hb
  clear aW00 gW00 aW01 gW01 aW02 gW02 aW03 gW03 aW04 gW04 hb
  obtain ⟨aw10, aw11, aw12, aw13, aw14⟩ := cells5 Kw1.out.2.1
  have gw10 := Kw1.out.2.1.frozen 0
  have gw11 := Kw1.out.2.1.frozen 1
  have gw12 := Kw1.out.2.1.frozen 2
  have gw13 := Kw1.out.2.1.frozen 3
  have gw14 := Kw1.out.2.1.frozen 4
  rw [hk1]
  go_wp2_with fail
  refine (at_any 45 45 rfl s _ (by omega)).mono ?_
  rintro e w3 ⟨rfl, hw⟩
  have hb := below_of_eq hw
  clear hw
  have Kw3 : Hid (Two w w3 g #[.int .i64 0, .int .i64 0, .int .i64 0, .string ⟨#[]⟩, .string ⟨#[]⟩]) := Two.below Kw1.out hb
  clear aw10 gw10 aw11 gw11 aw12 gw12 aw13 gw13 aw14 gw14 hb
  obtain ⟨aw30, aw31, aw32, aw33, aw34⟩ := cells5 Kw3.out.2.1
  have gw30 := Kw3.out.2.1.frozen 0
  have gw31 := Kw3.out.2.1.frozen 1
  have gw32 := Kw3.out.2.1.frozen 2
  have gw33 := Kw3.out.2.1.frozen 3
  have gw34 := Kw3.out.2.1.frozen 4
  rw [hk2]
  go_wp2_with fail
  refine (split_any s _ (by omega)).mono ?_
  rintro e w5 ⟨A, cc, rfl, hr, _, _, hb⟩
  have HR := hide hr
  clear hr
  have hnl := dots_length s
  have HMEM := hide (dots_mem s)
  have HAD := hide had
  clear had
  obtain ⟨n, hn⟩ : ∃ n, n = (dots s).length := ⟨_, rfl⟩
  rw [← hn] at HR hnl ⊢
  have HN := hide hn
  clear hn
  have Kw5 : Hid (Two w w5 g #[.int .i64 0, .int .i64 0, .int .i64 0, .string ⟨#[]⟩, .string ⟨#[]⟩]) := Two.below Kw3.out hb
  clear aw30 gw30 aw31 gw31 aw32 gw32 aw33 gw33 aw34 gw34 hb
  obtain ⟨aw50, aw51, aw52, aw53, aw54⟩ := cells5 Kw5.out.2.1
  have gw50 := Kw5.out.2.1.frozen 0
  have gw51 := Kw5.out.2.1.frozen 1
  have gw52 := Kw5.out.2.1.frozen 2
  have gw53 := Kw5.out.2.1.frozen 3
  have gw54 := Kw5.out.2.1.frozen 4
  go_wp2
  go_loopw [65] (fun i wr => ∃ j : Nat, j ≤ n ∧ i = .int .i64 j ∧ wr = w5 ∧ Hid (((dots s).take j).all digitsB = true)) (fun i _ => n - (intOf i).toNat)
  case atStart => exact ⟨0, Nat.zero_le _, rfl, rfl, rfl⟩
  case round =>
    obtain ⟨j, hj, rfl, hwr, HA⟩ := hrel
    subst hwr
    by_cases hlt : j < n
    · obtain ⟨ad, u, rfl, _, hx, hcx⟩ := HR.out.at_ hlt
      obtain ⟨x, hxx, rfl⟩ := strs_at hx
      have hxl := (HMEM.out x (mem_at hxx)).2
      have HX := hide hxx
      clear hx hxx
      cases hd : digitsB x
      · go_wp2_with fail
        refine (digits_any x _ (by omega)).mono ?_
        rintro e w6 ⟨rfl, rfl⟩
        rw [hd]
        clear hd
        have hfv := five (x0 := .int .i64 0) (x1 := .int .i64 0) (x2 := .int .i64 0) (x3 := .string ⟨#[]⟩) (x4 := .string ⟨#[]⟩) Kw5.out.1 Kw5.out.2.2.1
        have f0 := Kw5.out.1.frozen 0
        have f1 := Kw5.out.1.frozen 1
        have f2 := Kw5.out.1.frozen 2
        have f3 := Kw5.out.1.frozen 3
        have f4 := Kw5.out.1.frozen 4
        obtain ⟨u0, u1, u2, u3, u4⟩ := cells5 Kw5.out.1
        obtain ⟨v0, v1, v2, v3, v4⟩ := cells5 hfv.1
        have HF := hide hfv.2
        clear hfv
        go_wp2
        refine bodyPost_ret (v := .tuple #[.agg #[.int .i64 0, .int .i64 0, .int .i64 0, .string ⟨#[]⟩, .string ⟨#[]⟩], .int .i64 0]) ?_ rfl ?_
        · simp only [results, Tryd.f12]
          simp [go_sem, v0, v1, v2, v3, v4]
        · exact spec_is HP.out (v := ⟨0, 0, 0, [], []⟩) rfl HF.out

      · go_wp2_with fail
        refine (digits_any x _ (by omega)).mono ?_
        rintro e w6 ⟨rfl, rfl⟩
        rw [hd]
        have HD := hide hd
        clear hd
        go_wp2
        go_roundw
        case measure => simp [intOf]; omega
        case rel =>
          refine ⟨j + 1, by omega, by go_num, trivial, ?_⟩
          show _ = _
          rw [take_succ HX.out, List.all_append, HA.out]
          simp [HD.out]
    · obtain rfl : j = n := by omega
      exfalso
      have h1 := HA.out
      rw [HN.out, List.take_length, HAD.out] at h1
      cases h1


end Go.Proofs.YtaoeelhgfdknfaaDoor
