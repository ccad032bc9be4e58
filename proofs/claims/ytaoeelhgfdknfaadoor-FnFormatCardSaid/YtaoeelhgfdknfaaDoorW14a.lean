/- A part of semver's Parse: metadata none, pre-release none. Printed by gen_w13.py. -/
import Derived.Test.YtaoeelhgfdknfaaDoorW13
import Derived.Test.YtaoeelhgfdknfaaDoorW9
namespace Go.Proofs.YtaoeelhgfdknfaaDoor
open Go.RowKit

attribute [local go_sem] S_size S_toList E_toList S_extract

set_option linter.unusedVariables false in
set_option linter.unusedSimpArgs false in
set_option maxHeartbeats 2000000 in
set_option maxRecDepth 100000 in
theorem parse_FF_D (s : Bs) (w : World) (hl : s.length ≤ 8589934400) (hv : VarsOk w) (hf1 : fnd 43 (trimV s) = false) (hf2 : fnd 45 (bef 43 (trimV s)) = false) (hcn : ¬ List.count 46 (bef 45 (bef 43 (trimV s))) = 2) : Calls Tryd.prog 27 #[.string (S s)] w (ParseOut (trimV s) w) := by
  have hlt : (trimV s).length ≤ s.length := by unfold trimV; split <;> simp
  have hls1 := bef_len 43 (trimV s)
  have hlm := aft_len 43 (trimV s)
  have hls2 := bef_len 45 (bef 43 (trimV s))
  have hlp := aft_len 45 (bef 43 (trimV s))
  have hlr := cut_len (bef 45 (bef 43 (trimV s)))
  have hlr2 := cut_len (cut46 (bef 45 (bef 43 (trimV s)))).2
  have hx1 := cut_len1 (bef 45 (bef 43 (trimV s)))
  have hx2 := cut_len1 (cut46 (bef 45 (bef 43 (trimV s)))).2
  have hp := parseT_is (trimV s) (Or.inl hf1) (Or.inl hf2)
  rw [numsI_none (Or.inr (by rw [dots_count]; omega))] at hp
  replace hp : parseT (trimV s) = none := hp
  have hn2 : (((List.count 46 (bef 45 (bef 43 (trimV s))) : Nat) : Int) != 2) = true := by simp; omega
  have hn3 : ¬ ((List.count 46 (bef 45 (bef 43 (trimV s))) : Nat) : Int) = 2 := by omega
  have HP := hide hp
  clear hp
  have hk0 : Blk (w.alloc (.cells #[.int .i64 0, .int .i64 0, .int .i64 0, .string ⟨#[]⟩, .string ⟨#[]⟩] 40)) w.heap.size 40 #[.int .i64 0, .int .i64 0, .int .i64 0, .string ⟨#[]⟩, .string ⟨#[]⟩] := Blk.new _ _ _
  have hl0 : Below w.heap.size w (w.alloc (.cells #[.int .i64 0, .int .i64 0, .int .i64 0, .string ⟨#[]⟩, .string ⟨#[]⟩] 40)) := (Below.refl _ _).alloc (Nat.le_refl _) _
  go_enter Tryd.func27, Tryd.ntmps27
  go_wp2_with fail
  generalize w.alloc (.cells #[.int .i64 0, .int .i64 0, .int .i64 0, .string ⟨#[]⟩, .string ⟨#[]⟩] 40) = W0 at *
  have HKW0 := hide hk0
  have HLW0 := hide hl0
  clear hk0 hl0
  obtain ⟨aW00, aW01, aW02, aW03, aW04⟩ := cells5 HKW0.out
  have gW00 := HKW0.out.frozen 0
  have gW01 := HKW0.out.frozen 1
  have gW02 := HKW0.out.frozen 2
  have gW03 := HKW0.out.frozen 3
  have gW04 := HKW0.out.frozen 4
  refine (trim_any s _).mono ?_
  rintro e w1 ⟨rfl, hw⟩
  have hb := below_of_eq hw
  clear hw
  have HKw1 : Hid (Blk w1 w.heap.size 40 #[.int .i64 0, .int .i64 0, .int .i64 0, .string ⟨#[]⟩, .string ⟨#[]⟩]) := Blk.below HKW0.out hb (Blk.lt HKW0.out)
  have HLw1 : Hid (Below w.heap.size w w1) := HLW0.out.trans (hb.mono HLW0.out.size)
  clear hb aW00 aW01 aW02 aW03 aW04 gW00 gW01 gW02 gW03 gW04
  obtain ⟨aw10, aw11, aw12, aw13, aw14⟩ := cells5 HKw1.out
  have gw10 := HKw1.out.frozen 0
  have gw11 := HKw1.out.frozen 1
  have gw12 := HKw1.out.frozen 2
  have gw13 := HKw1.out.frozen 3
  have gw14 := HKw1.out.frozen 4
  go_wp2_with fail
  refine (zzcut_any 43 (trimV s) _ (by omega)).mono ?_
  rintro e w2 ⟨rfl, q, hq⟩
  rw [hf1]
  have HKw2 : Hid (Blk w2 w.heap.size 40 #[.int .i64 0, .int .i64 0, .int .i64 0, .string ⟨#[]⟩, .string ⟨#[]⟩]) := by rw [hq]; exact Blk.drewN HKw1.out q
  have HLw2 : Hid (Below w.heap.size w w2) := by rw [hq]; exact below_drewN HLw1.out q
  clear hq aw10 aw11 aw12 aw13 aw14 gw10 gw11 gw12 gw13 gw14
  obtain ⟨aw20, aw21, aw22, aw23, aw24⟩ := cells5 HKw2.out
  have gw20 := HKw2.out.frozen 0
  have gw21 := HKw2.out.frozen 1
  have gw22 := HKw2.out.frozen 2
  have gw23 := HKw2.out.frozen 3
  have gw24 := HKw2.out.frozen 4
  go_wp2_with fail
  refine (zzcut_any 45 (bef 43 (trimV s)) _ (by omega)).mono ?_
  rintro e w4 ⟨rfl, q, hq⟩
  rw [hf2]
  have HKw4 : Hid (Blk w4 w.heap.size 40 #[.int .i64 0, .int .i64 0, .int .i64 0, .string ⟨#[]⟩, .string (S (aft 43 (trimV s)))]) := by rw [hq]; exact Blk.drewN (Blk.set_ HKw2.out 4 (.string (S (aft 43 (trimV s))))) q
  have HLw4 : Hid (Below w.heap.size w w4) := by rw [hq]; exact below_drewN (below_set HLw2.out 4 (.string (S (aft 43 (trimV s))))) q
  clear hq aw20 aw21 aw22 aw23 aw24 gw20 gw21 gw22 gw23 gw24
  obtain ⟨aw40, aw41, aw42, aw43, aw44⟩ := cells5 HKw4.out
  have gw40 := HKw4.out.frozen 0
  have gw41 := HKw4.out.frozen 1
  have gw42 := HKw4.out.frozen 2
  have gw43 := HKw4.out.frozen 3
  have gw44 := HKw4.out.frozen 4
  go_wp2_with fail
  refine (zzcount_any (bef 45 (bef 43 (trimV s))) _ (by omega)).mono ?_
  rintro e w7 ⟨rfl, hw⟩
  have hb := below_of_eq hw
  clear hw
  have HKw7 : Hid (Blk w7 w.heap.size 40 #[.int .i64 0, .int .i64 0, .int .i64 0, .string (S (aft 45 (bef 43 (trimV s)))), .string (S (aft 43 (trimV s)))]) := Blk.below (Blk.set_ HKw4.out 3 (.string (S (aft 45 (bef 43 (trimV s)))))) hb (Blk.lt (Blk.set_ HKw4.out 3 (.string (S (aft 45 (bef 43 (trimV s)))))))
  have HLw7 : Hid (Below w.heap.size w w7) := (below_set HLw4.out 3 (.string (S (aft 45 (bef 43 (trimV s)))))).trans (hb.mono (below_set HLw4.out 3 (.string (S (aft 45 (bef 43 (trimV s)))))).size)
  clear hb aw40 aw41 aw42 aw43 aw44 gw40 gw41 gw42 gw43 gw44
  obtain ⟨aw70, aw71, aw72, aw73, aw74⟩ := cells5 HKw7.out
  have gw70 := HKw7.out.frozen 0
  have gw71 := HKw7.out.frozen 1
  have gw72 := HKw7.out.frozen 2
  have gw73 := HKw7.out.frozen 3
  have gw74 := HKw7.out.frozen 4
  go_wp2
  have hkz : Blk _ w.heap.size 40 #[.int .i64 0, .int .i64 0, .int .i64 0, .string (S (aft 45 (bef 43 (trimV s)))), .string (S (aft 43 (trimV s)))] := HKw7.out
  have hlz : Below w.heap.size w _ := HLw7.out
  obtain ⟨z0, z1, z2, z3, z4⟩ := cells5 hkz
  have y0 := hkz.frozen 0
  have y1 := hkz.frozen 1
  have y2 := hkz.frozen 2
  have y3 := hkz.frozen 3
  have y4 := hkz.frozen 4
  have HKz := hide hkz
  have HLz := hide hlz
  clear hkz hlz
  go_region_held3 (fun w' => w'.cell? ⟨w.heap.size, 0, none⟩ = some (.int .i64 0) ∧ w'.cell? ⟨w.heap.size, 1, none⟩ = some (.int .i64 0) ∧ w'.cell? ⟨w.heap.size, 2, none⟩ = some (.int .i64 0) ∧ w'.cell? ⟨w.heap.size, 3, none⟩ = some (.string (S (aft 45 (bef 43 (trimV s))))) ∧ w'.cell? ⟨w.heap.size, 4, none⟩ = some (.string (S (aft 43 (trimV s))))) (first | with_reducible exact cells5 HKe.out | with_reducible exact cells5 (five HKe.out HLe.out).1 | go_keep)
    (first
      | (go_at_call 36
         refine (errnew_any _ _).mono ?_
         rintro e we ⟨⟨te, pe, rfl⟩, hbe⟩
         have hke : Blk we w.heap.size 40 #[.int .i64 0, .int .i64 0, .int .i64 0, .string (S (aft 45 (bef 43 (trimV s)))), .string (S (aft 43 (trimV s)))] := by
           first
             | with_reducible exact (Blk.drew HKz.out).below hbe (Blk.lt (Blk.drew HKz.out))
             | with_reducible exact (five (Blk.drew HKz.out) (below_drew HLz.out)).1.below hbe (Blk.lt (five (Blk.drew HKz.out) (below_drew HLz.out)).1)
         have hle : Below w.heap.size w we := by
           first
             | with_reducible exact (below_drew HLz.out).trans (hbe.mono (below_drew HLz.out).size)
             | with_reducible exact (five (Blk.drew HKz.out) (below_drew HLz.out)).2.trans (hbe.mono (five (Blk.drew HKz.out) (below_drew HLz.out)).2.size)
         have HKe := hide hke
         have HLe := hide hle
         obtain ⟨b0, b1, b2, b3, b4⟩ := cells5 hke
         have d0 := hke.frozen 0
         have d1 := hke.frozen 1
         have d2 := hke.frozen 2
         have d3 := hke.frozen 3
         have d4 := hke.frozen 4
         clear hke hle hbe)
      | fail)
  all_goals
    have hfv := five (x0 := .int .i64 0) (x1 := .int .i64 0) (x2 := .int .i64 0) (x3 := .string (S (aft 45 (bef 43 (trimV s))))) (x4 := .string (S (aft 43 (trimV s)))) HKe.out HLe.out
    generalize (((((we.setCell ⟨w.heap.size, 0, none⟩ (.int .i64 0)).setCell ⟨w.heap.size, 1, none⟩ (.int .i64 0)).setCell ⟨w.heap.size, 2, none⟩ (.int .i64 0)).setCell ⟨w.heap.size, 3, none⟩ (.string (S (aft 45 (bef 43 (trimV s)))))).setCell ⟨w.heap.size, 4, none⟩ (.string (S (aft 43 (trimV s))))) = wv at *
    obtain ⟨v0, v1, v2, v3, v4⟩ := cells5 hfv.1
    have HLv := hide hfv.2
    clear hfv
    go_wp2
    refine bodyPost_ret (v := .tuple #[.agg #[.int .i64 0, .int .i64 0, .int .i64 0, .string (S (aft 45 (bef 43 (trimV s)))), .string (S (aft 43 (trimV s)))], .iface te pe]) ?_ rfl ?_
    · simp [results, Tryd.f27, go_sem, b0, b1, b2, b3, b4, v0, v1, v2, v3, v4]
    · exact parse_err HP.out (v := ⟨0, 0, 0, (aft 45 (bef 43 (trimV s))), (aft 43 (trimV s))⟩) rfl (by first | (with_reducible exact HLe.out) | (with_reducible exact HLv.out))

set_option linter.unusedVariables false in
set_option linter.unusedSimpArgs false in
set_option maxHeartbeats 2000000 in
set_option maxRecDepth 100000 in
theorem parse_FF_E (s : Bs) (w : World) (hl : s.length ≤ 8589934400) (hv : VarsOk w) (hf1 : fnd 43 (trimV s) = false) (hf2 : fnd 45 (bef 43 (trimV s)) = false) (hcn : List.count 46 (bef 45 (bef 43 (trimV s))) = 2) (hnva : pnum (cut46 (bef 45 (bef 43 (trimV s)))).1 = none) : Calls Tryd.prog 27 #[.string (S s)] w (ParseOut (trimV s) w) := by
  have hlt : (trimV s).length ≤ s.length := by unfold trimV; split <;> simp
  have hls1 := bef_len 43 (trimV s)
  have hlm := aft_len 43 (trimV s)
  have hls2 := bef_len 45 (bef 43 (trimV s))
  have hlp := aft_len 45 (bef 43 (trimV s))
  have hlr := cut_len (bef 45 (bef 43 (trimV s)))
  have hlr2 := cut_len (cut46 (bef 45 (bef 43 (trimV s)))).2
  have hx1 := cut_len1 (bef 45 (bef 43 (trimV s)))
  have hx2 := cut_len1 (cut46 (bef 45 (bef 43 (trimV s)))).2
  have hp := parseT_is (trimV s) (Or.inl hf1) (Or.inl hf2)
  rw [cut3 _ hcn] at hp
  rw [nums_none (Or.inl hnva)] at hp
  replace hp : parseT (trimV s) = none := hp
  have HNva := hide hnva
  clear hnva
  have HP := hide hp
  clear hp
  have hk0 : Blk (w.alloc (.cells #[.int .i64 0, .int .i64 0, .int .i64 0, .string ⟨#[]⟩, .string ⟨#[]⟩] 40)) w.heap.size 40 #[.int .i64 0, .int .i64 0, .int .i64 0, .string ⟨#[]⟩, .string ⟨#[]⟩] := Blk.new _ _ _
  have hl0 : Below w.heap.size w (w.alloc (.cells #[.int .i64 0, .int .i64 0, .int .i64 0, .string ⟨#[]⟩, .string ⟨#[]⟩] 40)) := (Below.refl _ _).alloc (Nat.le_refl _) _
  go_enter Tryd.func27, Tryd.ntmps27
  go_wp2_with fail
  generalize w.alloc (.cells #[.int .i64 0, .int .i64 0, .int .i64 0, .string ⟨#[]⟩, .string ⟨#[]⟩] 40) = W0 at *
  have HKW0 := hide hk0
  have HLW0 := hide hl0
  clear hk0 hl0
  obtain ⟨aW00, aW01, aW02, aW03, aW04⟩ := cells5 HKW0.out
  have gW00 := HKW0.out.frozen 0
  have gW01 := HKW0.out.frozen 1
  have gW02 := HKW0.out.frozen 2
  have gW03 := HKW0.out.frozen 3
  have gW04 := HKW0.out.frozen 4
  refine (trim_any s _).mono ?_
  rintro e w1 ⟨rfl, hw⟩
  have hb := below_of_eq hw
  clear hw
  have HKw1 : Hid (Blk w1 w.heap.size 40 #[.int .i64 0, .int .i64 0, .int .i64 0, .string ⟨#[]⟩, .string ⟨#[]⟩]) := Blk.below HKW0.out hb (Blk.lt HKW0.out)
  have HLw1 : Hid (Below w.heap.size w w1) := HLW0.out.trans (hb.mono HLW0.out.size)
  clear hb aW00 aW01 aW02 aW03 aW04 gW00 gW01 gW02 gW03 gW04
  obtain ⟨aw10, aw11, aw12, aw13, aw14⟩ := cells5 HKw1.out
  have gw10 := HKw1.out.frozen 0
  have gw11 := HKw1.out.frozen 1
  have gw12 := HKw1.out.frozen 2
  have gw13 := HKw1.out.frozen 3
  have gw14 := HKw1.out.frozen 4
  go_wp2_with fail
  refine (zzcut_any 43 (trimV s) _ (by omega)).mono ?_
  rintro e w2 ⟨rfl, q, hq⟩
  rw [hf1]
  have HKw2 : Hid (Blk w2 w.heap.size 40 #[.int .i64 0, .int .i64 0, .int .i64 0, .string ⟨#[]⟩, .string ⟨#[]⟩]) := by rw [hq]; exact Blk.drewN HKw1.out q
  have HLw2 : Hid (Below w.heap.size w w2) := by rw [hq]; exact below_drewN HLw1.out q
  clear hq aw10 aw11 aw12 aw13 aw14 gw10 gw11 gw12 gw13 gw14
  obtain ⟨aw20, aw21, aw22, aw23, aw24⟩ := cells5 HKw2.out
  have gw20 := HKw2.out.frozen 0
  have gw21 := HKw2.out.frozen 1
  have gw22 := HKw2.out.frozen 2
  have gw23 := HKw2.out.frozen 3
  have gw24 := HKw2.out.frozen 4
  go_wp2_with fail
  refine (zzcut_any 45 (bef 43 (trimV s)) _ (by omega)).mono ?_
  rintro e w4 ⟨rfl, q, hq⟩
  rw [hf2]
  have HKw4 : Hid (Blk w4 w.heap.size 40 #[.int .i64 0, .int .i64 0, .int .i64 0, .string ⟨#[]⟩, .string (S (aft 43 (trimV s)))]) := by rw [hq]; exact Blk.drewN (Blk.set_ HKw2.out 4 (.string (S (aft 43 (trimV s))))) q
  have HLw4 : Hid (Below w.heap.size w w4) := by rw [hq]; exact below_drewN (below_set HLw2.out 4 (.string (S (aft 43 (trimV s))))) q
  clear hq aw20 aw21 aw22 aw23 aw24 gw20 gw21 gw22 gw23 gw24
  obtain ⟨aw40, aw41, aw42, aw43, aw44⟩ := cells5 HKw4.out
  have gw40 := HKw4.out.frozen 0
  have gw41 := HKw4.out.frozen 1
  have gw42 := HKw4.out.frozen 2
  have gw43 := HKw4.out.frozen 3
  have gw44 := HKw4.out.frozen 4
  go_wp2_with fail
  refine (zzcount_any (bef 45 (bef 43 (trimV s))) _ (by omega)).mono ?_
  rintro e w7 ⟨rfl, hw⟩
  have hb := below_of_eq hw
  clear hw
  have HKw7 : Hid (Blk w7 w.heap.size 40 #[.int .i64 0, .int .i64 0, .int .i64 0, .string (S (aft 45 (bef 43 (trimV s)))), .string (S (aft 43 (trimV s)))]) := Blk.below (Blk.set_ HKw4.out 3 (.string (S (aft 45 (bef 43 (trimV s)))))) hb (Blk.lt (Blk.set_ HKw4.out 3 (.string (S (aft 45 (bef 43 (trimV s)))))))
  have HLw7 : Hid (Below w.heap.size w w7) := (below_set HLw4.out 3 (.string (S (aft 45 (bef 43 (trimV s)))))).trans (hb.mono (below_set HLw4.out 3 (.string (S (aft 45 (bef 43 (trimV s)))))).size)
  clear hb aw40 aw41 aw42 aw43 aw44 gw40 gw41 gw42 gw43 gw44
  obtain ⟨aw70, aw71, aw72, aw73, aw74⟩ := cells5 HKw7.out
  have gw70 := HKw7.out.frozen 0
  have gw71 := HKw7.out.frozen 1
  have gw72 := HKw7.out.frozen 2
  have gw73 := HKw7.out.frozen 3
  have gw74 := HKw7.out.frozen 4
  rw [hcn]
  go_wp2_with fail
  refine (cutdot_any (bef 45 (bef 43 (trimV s))) _ (by omega)).mono ?_
  rintro e w8 ⟨rfl, q, hq⟩
  have HKw8 : Hid (Blk w8 w.heap.size 40 #[.int .i64 0, .int .i64 0, .int .i64 0, .string (S (aft 45 (bef 43 (trimV s)))), .string (S (aft 43 (trimV s)))]) := by rw [hq]; exact Blk.drewN HKw7.out q
  have HLw8 : Hid (Below w.heap.size w w8) := by rw [hq]; exact below_drewN HLw7.out q
  clear hq aw70 aw71 aw72 aw73 aw74 gw70 gw71 gw72 gw73 gw74
  obtain ⟨aw80, aw81, aw82, aw83, aw84⟩ := cells5 HKw8.out
  have gw80 := HKw8.out.frozen 0
  have gw81 := HKw8.out.frozen 1
  have gw82 := HKw8.out.frozen 2
  have gw83 := HKw8.out.frozen 3
  have gw84 := HKw8.out.frozen 4
  have HV : Hid (VarsOk _) := hv.below (HLw8.out)
  go_wp2_with fail
  refine (pnum_any (cut46 (bef 45 (bef 43 (trimV s)))).1 _ (by omega) HV.out).mono ?_
  rintro e w9 hn
  rw [HNva.out] at hn
  clear HV
  obtain ⟨⟨va, te0, pe0, rfl⟩, hb⟩ := hn
  have HKw9 : Hid (Blk w9 w.heap.size 40 #[.int .i64 0, .int .i64 0, .int .i64 0, .string (S (aft 45 (bef 43 (trimV s)))), .string (S (aft 43 (trimV s)))]) := Blk.below HKw8.out hb (Blk.lt HKw8.out)
  have HLw9 : Hid (Below w.heap.size w w9) := HLw8.out.trans (hb.mono HLw8.out.size)
  clear hb aw80 aw81 aw82 aw83 aw84 gw80 gw81 gw82 gw83 gw84
  obtain ⟨aw90, aw91, aw92, aw93, aw94⟩ := cells5 HKw9.out
  have gw90 := HKw9.out.frozen 0
  have gw91 := HKw9.out.frozen 1
  have gw92 := HKw9.out.frozen 2
  have gw93 := HKw9.out.frozen 3
  have gw94 := HKw9.out.frozen 4
  go_wp2
  have hkz : Blk _ w.heap.size 40 #[.int .i64 va, .int .i64 0, .int .i64 0, .string (S (aft 45 (bef 43 (trimV s)))), .string (S (aft 43 (trimV s)))] := (Blk.set_ HKw9.out 0 (.int .i64 va))
  have hlz : Below w.heap.size w _ := (below_set HLw9.out 0 (.int .i64 va))
  obtain ⟨z0, z1, z2, z3, z4⟩ := cells5 hkz
  have y0 := hkz.frozen 0
  have y1 := hkz.frozen 1
  have y2 := hkz.frozen 2
  have y3 := hkz.frozen 3
  have y4 := hkz.frozen 4
  have HKz := hide hkz
  have HLz := hide hlz
  clear hkz hlz
  go_region_held3 (fun w' => w'.cell? ⟨w.heap.size, 0, none⟩ = some (.int .i64 va) ∧ w'.cell? ⟨w.heap.size, 1, none⟩ = some (.int .i64 0) ∧ w'.cell? ⟨w.heap.size, 2, none⟩ = some (.int .i64 0) ∧ w'.cell? ⟨w.heap.size, 3, none⟩ = some (.string (S (aft 45 (bef 43 (trimV s))))) ∧ w'.cell? ⟨w.heap.size, 4, none⟩ = some (.string (S (aft 43 (trimV s))))) (first | with_reducible exact cells5 HKe.out | with_reducible exact cells5 (five HKe.out HLe.out).1 | go_keep)
    (first
      | (go_at_call 36
         refine (errnew_any _ _).mono ?_
         rintro e we ⟨⟨te, pe, rfl⟩, hbe⟩
         have hke : Blk we w.heap.size 40 #[.int .i64 va, .int .i64 0, .int .i64 0, .string (S (aft 45 (bef 43 (trimV s)))), .string (S (aft 43 (trimV s)))] := by
           first
             | with_reducible exact (Blk.drew HKz.out).below hbe (Blk.lt (Blk.drew HKz.out))
             | with_reducible exact (five (Blk.drew HKz.out) (below_drew HLz.out)).1.below hbe (Blk.lt (five (Blk.drew HKz.out) (below_drew HLz.out)).1)
         have hle : Below w.heap.size w we := by
           first
             | with_reducible exact (below_drew HLz.out).trans (hbe.mono (below_drew HLz.out).size)
             | with_reducible exact (five (Blk.drew HKz.out) (below_drew HLz.out)).2.trans (hbe.mono (five (Blk.drew HKz.out) (below_drew HLz.out)).2.size)
         have HKe := hide hke
         have HLe := hide hle
         obtain ⟨b0, b1, b2, b3, b4⟩ := cells5 hke
         have d0 := hke.frozen 0
         have d1 := hke.frozen 1
         have d2 := hke.frozen 2
         have d3 := hke.frozen 3
         have d4 := hke.frozen 4
         clear hke hle hbe)
      | fail)
  all_goals
    have hfv := five (x0 := .int .i64 va) (x1 := .int .i64 0) (x2 := .int .i64 0) (x3 := .string (S (aft 45 (bef 43 (trimV s))))) (x4 := .string (S (aft 43 (trimV s)))) HKe.out HLe.out
    generalize (((((we.setCell ⟨w.heap.size, 0, none⟩ (.int .i64 va)).setCell ⟨w.heap.size, 1, none⟩ (.int .i64 0)).setCell ⟨w.heap.size, 2, none⟩ (.int .i64 0)).setCell ⟨w.heap.size, 3, none⟩ (.string (S (aft 45 (bef 43 (trimV s)))))).setCell ⟨w.heap.size, 4, none⟩ (.string (S (aft 43 (trimV s))))) = wv at *
    obtain ⟨v0, v1, v2, v3, v4⟩ := cells5 hfv.1
    have HLv := hide hfv.2
    clear hfv
    go_wp2
    refine bodyPost_ret (v := .tuple #[.agg #[.int .i64 va, .int .i64 0, .int .i64 0, .string (S (aft 45 (bef 43 (trimV s)))), .string (S (aft 43 (trimV s)))], .iface te pe]) ?_ rfl ?_
    · simp [results, Tryd.f27, go_sem, b0, b1, b2, b3, b4, v0, v1, v2, v3, v4]
    · exact parse_err HP.out (v := ⟨va, 0, 0, (aft 45 (bef 43 (trimV s))), (aft 43 (trimV s))⟩) rfl (by first | (with_reducible exact HLe.out) | (with_reducible exact HLv.out))

set_option linter.unusedVariables false in
set_option linter.unusedSimpArgs false in
set_option maxHeartbeats 2000000 in
set_option maxRecDepth 100000 in
theorem parse_FF_F (s : Bs) (w : World) (hl : s.length ≤ 8589934400) (hv : VarsOk w) (hf1 : fnd 43 (trimV s) = false) (hf2 : fnd 45 (bef 43 (trimV s)) = false) (hcn : List.count 46 (bef 45 (bef 43 (trimV s))) = 2) (va : Int) (hnva : pnum (cut46 (bef 45 (bef 43 (trimV s)))).1 = some va) (hnvb : pnum (cut46 (cut46 (bef 45 (bef 43 (trimV s)))).2).1 = none) : Calls Tryd.prog 27 #[.string (S s)] w (ParseOut (trimV s) w) := by
  have hlt : (trimV s).length ≤ s.length := by unfold trimV; split <;> simp
  have hls1 := bef_len 43 (trimV s)
  have hlm := aft_len 43 (trimV s)
  have hls2 := bef_len 45 (bef 43 (trimV s))
  have hlp := aft_len 45 (bef 43 (trimV s))
  have hlr := cut_len (bef 45 (bef 43 (trimV s)))
  have hlr2 := cut_len (cut46 (bef 45 (bef 43 (trimV s)))).2
  have hx1 := cut_len1 (bef 45 (bef 43 (trimV s)))
  have hx2 := cut_len1 (cut46 (bef 45 (bef 43 (trimV s)))).2
  have hp := parseT_is (trimV s) (Or.inl hf1) (Or.inl hf2)
  rw [cut3 _ hcn] at hp
  rw [nums_none (Or.inr (Or.inl hnvb))] at hp
  replace hp : parseT (trimV s) = none := hp
  have HNva := hide hnva
  clear hnva
  have HNvb := hide hnvb
  clear hnvb
  have HP := hide hp
  clear hp
  have hk0 : Blk (w.alloc (.cells #[.int .i64 0, .int .i64 0, .int .i64 0, .string ⟨#[]⟩, .string ⟨#[]⟩] 40)) w.heap.size 40 #[.int .i64 0, .int .i64 0, .int .i64 0, .string ⟨#[]⟩, .string ⟨#[]⟩] := Blk.new _ _ _
  have hl0 : Below w.heap.size w (w.alloc (.cells #[.int .i64 0, .int .i64 0, .int .i64 0, .string ⟨#[]⟩, .string ⟨#[]⟩] 40)) := (Below.refl _ _).alloc (Nat.le_refl _) _
  go_enter Tryd.func27, Tryd.ntmps27
  go_wp2_with fail
  generalize w.alloc (.cells #[.int .i64 0, .int .i64 0, .int .i64 0, .string ⟨#[]⟩, .string ⟨#[]⟩] 40) = W0 at *
  have HKW0 := hide hk0
  have HLW0 := hide hl0
  clear hk0 hl0
  obtain ⟨aW00, aW01, aW02, aW03, aW04⟩ := cells5 HKW0.out
  have gW00 := HKW0.out.frozen 0
  have gW01 := HKW0.out.frozen 1
  have gW02 := HKW0.out.frozen 2
  have gW03 := HKW0.out.frozen 3
  have gW04 := HKW0.out.frozen 4
  refine (trim_any s _).mono ?_
  rintro e w1 ⟨rfl, hw⟩
  have hb := below_of_eq hw
  clear hw
  have HKw1 : Hid (Blk w1 w.heap.size 40 #[.int .i64 0, .int .i64 0, .int .i64 0, .string ⟨#[]⟩, .string ⟨#[]⟩]) := Blk.below HKW0.out hb (Blk.lt HKW0.out)
  have HLw1 : Hid (Below w.heap.size w w1) := HLW0.out.trans (hb.mono HLW0.out.size)
  clear hb aW00 aW01 aW02 aW03 aW04 gW00 gW01 gW02 gW03 gW04
  obtain ⟨aw10, aw11, aw12, aw13, aw14⟩ := cells5 HKw1.out
  have gw10 := HKw1.out.frozen 0
  have gw11 := HKw1.out.frozen 1
  have gw12 := HKw1.out.frozen 2
  have gw13 := HKw1.out.frozen 3
  have gw14 := HKw1.out.frozen 4
  go_wp2_with fail
  refine (zzcut_any 43 (trimV s) _ (by omega)).mono ?_
  rintro e w2 ⟨rfl, q, hq⟩
  rw [hf1]
  have HKw2 : Hid (Blk w2 w.heap.size 40 #[.int .i64 0, .int .i64 0, .int .i64 0, .string ⟨#[]⟩, .string ⟨#[]⟩]) := by rw [hq]; exact Blk.drewN HKw1.out q
  have HLw2 : Hid (Below w.heap.size w w2) := by rw [hq]; exact below_drewN HLw1.out q
  clear hq aw10 aw11 aw12 aw13 aw14 gw10 gw11 gw12 gw13 gw14
  obtain ⟨aw20, aw21, aw22, aw23, aw24⟩ := cells5 HKw2.out
  have gw20 := HKw2.out.frozen 0
  have gw21 := HKw2.out.frozen 1
  have gw22 := HKw2.out.frozen 2
  have gw23 := HKw2.out.frozen 3
  have gw24 := HKw2.out.frozen 4
  go_wp2_with fail
  refine (zzcut_any 45 (bef 43 (trimV s)) _ (by omega)).mono ?_
  rintro e w4 ⟨rfl, q, hq⟩
  rw [hf2]
  have HKw4 : Hid (Blk w4 w.heap.size 40 #[.int .i64 0, .int .i64 0, .int .i64 0, .string ⟨#[]⟩, .string (S (aft 43 (trimV s)))]) := by rw [hq]; exact Blk.drewN (Blk.set_ HKw2.out 4 (.string (S (aft 43 (trimV s))))) q
  have HLw4 : Hid (Below w.heap.size w w4) := by rw [hq]; exact below_drewN (below_set HLw2.out 4 (.string (S (aft 43 (trimV s))))) q
  clear hq aw20 aw21 aw22 aw23 aw24 gw20 gw21 gw22 gw23 gw24
  obtain ⟨aw40, aw41, aw42, aw43, aw44⟩ := cells5 HKw4.out
  have gw40 := HKw4.out.frozen 0
  have gw41 := HKw4.out.frozen 1
  have gw42 := HKw4.out.frozen 2
  have gw43 := HKw4.out.frozen 3
  have gw44 := HKw4.out.frozen 4
  go_wp2_with fail
  refine (zzcount_any (bef 45 (bef 43 (trimV s))) _ (by omega)).mono ?_
  rintro e w7 ⟨rfl, hw⟩
  have hb := below_of_eq hw
  clear hw
  have HKw7 : Hid (Blk w7 w.heap.size 40 #[.int .i64 0, .int .i64 0, .int .i64 0, .string (S (aft 45 (bef 43 (trimV s)))), .string (S (aft 43 (trimV s)))]) := Blk.below (Blk.set_ HKw4.out 3 (.string (S (aft 45 (bef 43 (trimV s)))))) hb (Blk.lt (Blk.set_ HKw4.out 3 (.string (S (aft 45 (bef 43 (trimV s)))))))
  have HLw7 : Hid (Below w.heap.size w w7) := (below_set HLw4.out 3 (.string (S (aft 45 (bef 43 (trimV s)))))).trans (hb.mono (below_set HLw4.out 3 (.string (S (aft 45 (bef 43 (trimV s)))))).size)
  clear hb aw40 aw41 aw42 aw43 aw44 gw40 gw41 gw42 gw43 gw44
  obtain ⟨aw70, aw71, aw72, aw73, aw74⟩ := cells5 HKw7.out
  have gw70 := HKw7.out.frozen 0
  have gw71 := HKw7.out.frozen 1
  have gw72 := HKw7.out.frozen 2
  have gw73 := HKw7.out.frozen 3
  have gw74 := HKw7.out.frozen 4
  rw [hcn]
  go_wp2_with fail
  refine (cutdot_any (bef 45 (bef 43 (trimV s))) _ (by omega)).mono ?_
  rintro e w8 ⟨rfl, q, hq⟩
  have HKw8 : Hid (Blk w8 w.heap.size 40 #[.int .i64 0, .int .i64 0, .int .i64 0, .string (S (aft 45 (bef 43 (trimV s)))), .string (S (aft 43 (trimV s)))]) := by rw [hq]; exact Blk.drewN HKw7.out q
  have HLw8 : Hid (Below w.heap.size w w8) := by rw [hq]; exact below_drewN HLw7.out q
  clear hq aw70 aw71 aw72 aw73 aw74 gw70 gw71 gw72 gw73 gw74
  obtain ⟨aw80, aw81, aw82, aw83, aw84⟩ := cells5 HKw8.out
  have gw80 := HKw8.out.frozen 0
  have gw81 := HKw8.out.frozen 1
  have gw82 := HKw8.out.frozen 2
  have gw83 := HKw8.out.frozen 3
  have gw84 := HKw8.out.frozen 4
  have HV : Hid (VarsOk _) := hv.below (HLw8.out)
  go_wp2_with fail
  refine (pnum_any (cut46 (bef 45 (bef 43 (trimV s)))).1 _ (by omega) HV.out).mono ?_
  rintro e w9 hn
  rw [HNva.out] at hn
  clear HV
  obtain ⟨rfl, hb⟩ := hn
  have HKw9 : Hid (Blk w9 w.heap.size 40 #[.int .i64 0, .int .i64 0, .int .i64 0, .string (S (aft 45 (bef 43 (trimV s)))), .string (S (aft 43 (trimV s)))]) := Blk.below HKw8.out hb (Blk.lt HKw8.out)
  have HLw9 : Hid (Below w.heap.size w w9) := HLw8.out.trans (hb.mono HLw8.out.size)
  clear hb aw80 aw81 aw82 aw83 aw84 gw80 gw81 gw82 gw83 gw84
  obtain ⟨aw90, aw91, aw92, aw93, aw94⟩ := cells5 HKw9.out
  have gw90 := HKw9.out.frozen 0
  have gw91 := HKw9.out.frozen 1
  have gw92 := HKw9.out.frozen 2
  have gw93 := HKw9.out.frozen 3
  have gw94 := HKw9.out.frozen 4
  go_wp2_with fail
  refine (cutdot_any (cut46 (bef 45 (bef 43 (trimV s)))).2 _ (by omega)).mono ?_
  rintro e wa ⟨rfl, q, hq⟩
  have HKwa : Hid (Blk wa w.heap.size 40 #[.int .i64 va, .int .i64 0, .int .i64 0, .string (S (aft 45 (bef 43 (trimV s)))), .string (S (aft 43 (trimV s)))]) := by rw [hq]; exact Blk.drewN (Blk.set_ HKw9.out 0 (.int .i64 va)) q
  have HLwa : Hid (Below w.heap.size w wa) := by rw [hq]; exact below_drewN (below_set HLw9.out 0 (.int .i64 va)) q
  clear hq aw90 aw91 aw92 aw93 aw94 gw90 gw91 gw92 gw93 gw94
  obtain ⟨awa0, awa1, awa2, awa3, awa4⟩ := cells5 HKwa.out
  have gwa0 := HKwa.out.frozen 0
  have gwa1 := HKwa.out.frozen 1
  have gwa2 := HKwa.out.frozen 2
  have gwa3 := HKwa.out.frozen 3
  have gwa4 := HKwa.out.frozen 4
  have HV : Hid (VarsOk _) := hv.below (HLwa.out)
  go_wp2_with fail
  refine (pnum_any (cut46 (cut46 (bef 45 (bef 43 (trimV s)))).2).1 _ (by omega) HV.out).mono ?_
  rintro e wb hn
  rw [HNvb.out] at hn
  clear HV
  obtain ⟨⟨vb, te0, pe0, rfl⟩, hb⟩ := hn
  have HKwb : Hid (Blk wb w.heap.size 40 #[.int .i64 va, .int .i64 0, .int .i64 0, .string (S (aft 45 (bef 43 (trimV s)))), .string (S (aft 43 (trimV s)))]) := Blk.below HKwa.out hb (Blk.lt HKwa.out)
  have HLwb : Hid (Below w.heap.size w wb) := HLwa.out.trans (hb.mono HLwa.out.size)
  clear hb awa0 awa1 awa2 awa3 awa4 gwa0 gwa1 gwa2 gwa3 gwa4
  obtain ⟨awb0, awb1, awb2, awb3, awb4⟩ := cells5 HKwb.out
  have gwb0 := HKwb.out.frozen 0
  have gwb1 := HKwb.out.frozen 1
  have gwb2 := HKwb.out.frozen 2
  have gwb3 := HKwb.out.frozen 3
  have gwb4 := HKwb.out.frozen 4
  go_wp2
  have hkz : Blk _ w.heap.size 40 #[.int .i64 va, .int .i64 vb, .int .i64 0, .string (S (aft 45 (bef 43 (trimV s)))), .string (S (aft 43 (trimV s)))] := (Blk.set_ HKwb.out 1 (.int .i64 vb))
  have hlz : Below w.heap.size w _ := (below_set HLwb.out 1 (.int .i64 vb))
  obtain ⟨z0, z1, z2, z3, z4⟩ := cells5 hkz
  have y0 := hkz.frozen 0
  have y1 := hkz.frozen 1
  have y2 := hkz.frozen 2
  have y3 := hkz.frozen 3
  have y4 := hkz.frozen 4
  have HKz := hide hkz
  have HLz := hide hlz
  clear hkz hlz
  go_region_held3 (fun w' => w'.cell? ⟨w.heap.size, 0, none⟩ = some (.int .i64 va) ∧ w'.cell? ⟨w.heap.size, 1, none⟩ = some (.int .i64 vb) ∧ w'.cell? ⟨w.heap.size, 2, none⟩ = some (.int .i64 0) ∧ w'.cell? ⟨w.heap.size, 3, none⟩ = some (.string (S (aft 45 (bef 43 (trimV s))))) ∧ w'.cell? ⟨w.heap.size, 4, none⟩ = some (.string (S (aft 43 (trimV s))))) (first | with_reducible exact cells5 HKe.out | with_reducible exact cells5 (five HKe.out HLe.out).1 | go_keep)
    (first
      | (go_at_call 36
         refine (errnew_any _ _).mono ?_
         rintro e we ⟨⟨te, pe, rfl⟩, hbe⟩
         have hke : Blk we w.heap.size 40 #[.int .i64 va, .int .i64 vb, .int .i64 0, .string (S (aft 45 (bef 43 (trimV s)))), .string (S (aft 43 (trimV s)))] := by
           first
             | with_reducible exact (Blk.drew HKz.out).below hbe (Blk.lt (Blk.drew HKz.out))
             | with_reducible exact (five (Blk.drew HKz.out) (below_drew HLz.out)).1.below hbe (Blk.lt (five (Blk.drew HKz.out) (below_drew HLz.out)).1)
         have hle : Below w.heap.size w we := by
           first
             | with_reducible exact (below_drew HLz.out).trans (hbe.mono (below_drew HLz.out).size)
             | with_reducible exact (five (Blk.drew HKz.out) (below_drew HLz.out)).2.trans (hbe.mono (five (Blk.drew HKz.out) (below_drew HLz.out)).2.size)
         have HKe := hide hke
         have HLe := hide hle
         obtain ⟨b0, b1, b2, b3, b4⟩ := cells5 hke
         have d0 := hke.frozen 0
         have d1 := hke.frozen 1
         have d2 := hke.frozen 2
         have d3 := hke.frozen 3
         have d4 := hke.frozen 4
         clear hke hle hbe)
      | fail)
  all_goals
    have hfv := five (x0 := .int .i64 va) (x1 := .int .i64 vb) (x2 := .int .i64 0) (x3 := .string (S (aft 45 (bef 43 (trimV s))))) (x4 := .string (S (aft 43 (trimV s)))) HKe.out HLe.out
    generalize (((((we.setCell ⟨w.heap.size, 0, none⟩ (.int .i64 va)).setCell ⟨w.heap.size, 1, none⟩ (.int .i64 vb)).setCell ⟨w.heap.size, 2, none⟩ (.int .i64 0)).setCell ⟨w.heap.size, 3, none⟩ (.string (S (aft 45 (bef 43 (trimV s)))))).setCell ⟨w.heap.size, 4, none⟩ (.string (S (aft 43 (trimV s))))) = wv at *
    obtain ⟨v0, v1, v2, v3, v4⟩ := cells5 hfv.1
    have HLv := hide hfv.2
    clear hfv
    go_wp2
    refine bodyPost_ret (v := .tuple #[.agg #[.int .i64 va, .int .i64 vb, .int .i64 0, .string (S (aft 45 (bef 43 (trimV s)))), .string (S (aft 43 (trimV s)))], .iface te pe]) ?_ rfl ?_
    · simp [results, Tryd.f27, go_sem, b0, b1, b2, b3, b4, v0, v1, v2, v3, v4]
    · exact parse_err HP.out (v := ⟨va, vb, 0, (aft 45 (bef 43 (trimV s))), (aft 43 (trimV s))⟩) rfl (by first | (with_reducible exact HLe.out) | (with_reducible exact HLv.out))

set_option linter.unusedVariables false in
set_option linter.unusedSimpArgs false in
set_option maxHeartbeats 2000000 in
set_option maxRecDepth 100000 in
theorem parse_FF_G (s : Bs) (w : World) (hl : s.length ≤ 8589934400) (hv : VarsOk w) (hf1 : fnd 43 (trimV s) = false) (hf2 : fnd 45 (bef 43 (trimV s)) = false) (hcn : List.count 46 (bef 45 (bef 43 (trimV s))) = 2) (va : Int) (hnva : pnum (cut46 (bef 45 (bef 43 (trimV s)))).1 = some va) (vb : Int) (hnvb : pnum (cut46 (cut46 (bef 45 (bef 43 (trimV s)))).2).1 = some vb) (hnvc : pnum (cut46 (cut46 (bef 45 (bef 43 (trimV s)))).2).2 = none) : Calls Tryd.prog 27 #[.string (S s)] w (ParseOut (trimV s) w) := by
  have hlt : (trimV s).length ≤ s.length := by unfold trimV; split <;> simp
  have hls1 := bef_len 43 (trimV s)
  have hlm := aft_len 43 (trimV s)
  have hls2 := bef_len 45 (bef 43 (trimV s))
  have hlp := aft_len 45 (bef 43 (trimV s))
  have hlr := cut_len (bef 45 (bef 43 (trimV s)))
  have hlr2 := cut_len (cut46 (bef 45 (bef 43 (trimV s)))).2
  have hx1 := cut_len1 (bef 45 (bef 43 (trimV s)))
  have hx2 := cut_len1 (cut46 (bef 45 (bef 43 (trimV s)))).2
  have hp := parseT_is (trimV s) (Or.inl hf1) (Or.inl hf2)
  rw [cut3 _ hcn] at hp
  rw [nums_none (Or.inr (Or.inr hnvc))] at hp
  replace hp : parseT (trimV s) = none := hp
  have HNva := hide hnva
  clear hnva
  have HNvb := hide hnvb
  clear hnvb
  have HNvc := hide hnvc
  clear hnvc
  have HP := hide hp
  clear hp
  have hk0 : Blk (w.alloc (.cells #[.int .i64 0, .int .i64 0, .int .i64 0, .string ⟨#[]⟩, .string ⟨#[]⟩] 40)) w.heap.size 40 #[.int .i64 0, .int .i64 0, .int .i64 0, .string ⟨#[]⟩, .string ⟨#[]⟩] := Blk.new _ _ _
  have hl0 : Below w.heap.size w (w.alloc (.cells #[.int .i64 0, .int .i64 0, .int .i64 0, .string ⟨#[]⟩, .string ⟨#[]⟩] 40)) := (Below.refl _ _).alloc (Nat.le_refl _) _
  go_enter Tryd.func27, Tryd.ntmps27
  go_wp2_with fail
  generalize w.alloc (.cells #[.int .i64 0, .int .i64 0, .int .i64 0, .string ⟨#[]⟩, .string ⟨#[]⟩] 40) = W0 at *
  have HKW0 := hide hk0
  have HLW0 := hide hl0
  clear hk0 hl0
  obtain ⟨aW00, aW01, aW02, aW03, aW04⟩ := cells5 HKW0.out
  have gW00 := HKW0.out.frozen 0
  have gW01 := HKW0.out.frozen 1
  have gW02 := HKW0.out.frozen 2
  have gW03 := HKW0.out.frozen 3
  have gW04 := HKW0.out.frozen 4
  refine (trim_any s _).mono ?_
  rintro e w1 ⟨rfl, hw⟩
  have hb := below_of_eq hw
  clear hw
  have HKw1 : Hid (Blk w1 w.heap.size 40 #[.int .i64 0, .int .i64 0, .int .i64 0, .string ⟨#[]⟩, .string ⟨#[]⟩]) := Blk.below HKW0.out hb (Blk.lt HKW0.out)
  have HLw1 : Hid (Below w.heap.size w w1) := HLW0.out.trans (hb.mono HLW0.out.size)
  clear hb aW00 aW01 aW02 aW03 aW04 gW00 gW01 gW02 gW03 gW04
  obtain ⟨aw10, aw11, aw12, aw13, aw14⟩ := cells5 HKw1.out
  have gw10 := HKw1.out.frozen 0
  have gw11 := HKw1.out.frozen 1
  have gw12 := HKw1.out.frozen 2
  have gw13 := HKw1.out.frozen 3
  have gw14 := HKw1.out.frozen 4
  go_wp2_with fail
  refine (zzcut_any 43 (trimV s) _ (by omega)).mono ?_
  rintro e w2 ⟨rfl, q, hq⟩
  rw [hf1]
  have HKw2 : Hid (Blk w2 w.heap.size 40 #[.int .i64 0, .int .i64 0, .int .i64 0, .string ⟨#[]⟩, .string ⟨#[]⟩]) := by rw [hq]; exact Blk.drewN HKw1.out q
  have HLw2 : Hid (Below w.heap.size w w2) := by rw [hq]; exact below_drewN HLw1.out q
  clear hq aw10 aw11 aw12 aw13 aw14 gw10 gw11 gw12 gw13 gw14
  obtain ⟨aw20, aw21, aw22, aw23, aw24⟩ := cells5 HKw2.out
  have gw20 := HKw2.out.frozen 0
  have gw21 := HKw2.out.frozen 1
  have gw22 := HKw2.out.frozen 2
  have gw23 := HKw2.out.frozen 3
  have gw24 := HKw2.out.frozen 4
  go_wp2_with fail
  refine (zzcut_any 45 (bef 43 (trimV s)) _ (by omega)).mono ?_
  rintro e w4 ⟨rfl, q, hq⟩
  rw [hf2]
  have HKw4 : Hid (Blk w4 w.heap.size 40 #[.int .i64 0, .int .i64 0, .int .i64 0, .string ⟨#[]⟩, .string (S (aft 43 (trimV s)))]) := by rw [hq]; exact Blk.drewN (Blk.set_ HKw2.out 4 (.string (S (aft 43 (trimV s))))) q
  have HLw4 : Hid (Below w.heap.size w w4) := by rw [hq]; exact below_drewN (below_set HLw2.out 4 (.string (S (aft 43 (trimV s))))) q
  clear hq aw20 aw21 aw22 aw23 aw24 gw20 gw21 gw22 gw23 gw24
  obtain ⟨aw40, aw41, aw42, aw43, aw44⟩ := cells5 HKw4.out
  have gw40 := HKw4.out.frozen 0
  have gw41 := HKw4.out.frozen 1
  have gw42 := HKw4.out.frozen 2
  have gw43 := HKw4.out.frozen 3
  have gw44 := HKw4.out.frozen 4
  go_wp2_with fail
  refine (zzcount_any (bef 45 (bef 43 (trimV s))) _ (by omega)).mono ?_
  rintro e w7 ⟨rfl, hw⟩
  have hb := below_of_eq hw
  clear hw
  have HKw7 : Hid (Blk w7 w.heap.size 40 #[.int .i64 0, .int .i64 0, .int .i64 0, .string (S (aft 45 (bef 43 (trimV s)))), .string (S (aft 43 (trimV s)))]) := Blk.below (Blk.set_ HKw4.out 3 (.string (S (aft 45 (bef 43 (trimV s)))))) hb (Blk.lt (Blk.set_ HKw4.out 3 (.string (S (aft 45 (bef 43 (trimV s)))))))
  have HLw7 : Hid (Below w.heap.size w w7) := (below_set HLw4.out 3 (.string (S (aft 45 (bef 43 (trimV s)))))).trans (hb.mono (below_set HLw4.out 3 (.string (S (aft 45 (bef 43 (trimV s)))))).size)
  clear hb aw40 aw41 aw42 aw43 aw44 gw40 gw41 gw42 gw43 gw44
  obtain ⟨aw70, aw71, aw72, aw73, aw74⟩ := cells5 HKw7.out
  have gw70 := HKw7.out.frozen 0
  have gw71 := HKw7.out.frozen 1
  have gw72 := HKw7.out.frozen 2
  have gw73 := HKw7.out.frozen 3
  have gw74 := HKw7.out.frozen 4
  rw [hcn]
  go_wp2_with fail
  refine (cutdot_any (bef 45 (bef 43 (trimV s))) _ (by omega)).mono ?_
  rintro e w8 ⟨rfl, q, hq⟩
  have HKw8 : Hid (Blk w8 w.heap.size 40 #[.int .i64 0, .int .i64 0, .int .i64 0, .string (S (aft 45 (bef 43 (trimV s)))), .string (S (aft 43 (trimV s)))]) := by rw [hq]; exact Blk.drewN HKw7.out q
  have HLw8 : Hid (Below w.heap.size w w8) := by rw [hq]; exact below_drewN HLw7.out q
  clear hq aw70 aw71 aw72 aw73 aw74 gw70 gw71 gw72 gw73 gw74
  obtain ⟨aw80, aw81, aw82, aw83, aw84⟩ := cells5 HKw8.out
  have gw80 := HKw8.out.frozen 0
  have gw81 := HKw8.out.frozen 1
  have gw82 := HKw8.out.frozen 2
  have gw83 := HKw8.out.frozen 3
  have gw84 := HKw8.out.frozen 4
  have HV : Hid (VarsOk _) := hv.below (HLw8.out)
  go_wp2_with fail
  refine (pnum_any (cut46 (bef 45 (bef 43 (trimV s)))).1 _ (by omega) HV.out).mono ?_
  rintro e w9 hn
  rw [HNva.out] at hn
  clear HV
  obtain ⟨rfl, hb⟩ := hn
  have HKw9 : Hid (Blk w9 w.heap.size 40 #[.int .i64 0, .int .i64 0, .int .i64 0, .string (S (aft 45 (bef 43 (trimV s)))), .string (S (aft 43 (trimV s)))]) := Blk.below HKw8.out hb (Blk.lt HKw8.out)
  have HLw9 : Hid (Below w.heap.size w w9) := HLw8.out.trans (hb.mono HLw8.out.size)
  clear hb aw80 aw81 aw82 aw83 aw84 gw80 gw81 gw82 gw83 gw84
  obtain ⟨aw90, aw91, aw92, aw93, aw94⟩ := cells5 HKw9.out
  have gw90 := HKw9.out.frozen 0
  have gw91 := HKw9.out.frozen 1
  have gw92 := HKw9.out.frozen 2
  have gw93 := HKw9.out.frozen 3
  have gw94 := HKw9.out.frozen 4
  go_wp2_with fail
  refine (cutdot_any (cut46 (bef 45 (bef 43 (trimV s)))).2 _ (by omega)).mono ?_
  rintro e wa ⟨rfl, q, hq⟩
  have HKwa : Hid (Blk wa w.heap.size 40 #[.int .i64 va, .int .i64 0, .int .i64 0, .string (S (aft 45 (bef 43 (trimV s)))), .string (S (aft 43 (trimV s)))]) := by rw [hq]; exact Blk.drewN (Blk.set_ HKw9.out 0 (.int .i64 va)) q
  have HLwa : Hid (Below w.heap.size w wa) := by rw [hq]; exact below_drewN (below_set HLw9.out 0 (.int .i64 va)) q
  clear hq aw90 aw91 aw92 aw93 aw94 gw90 gw91 gw92 gw93 gw94
  obtain ⟨awa0, awa1, awa2, awa3, awa4⟩ := cells5 HKwa.out
  have gwa0 := HKwa.out.frozen 0
  have gwa1 := HKwa.out.frozen 1
  have gwa2 := HKwa.out.frozen 2
  have gwa3 := HKwa.out.frozen 3
  have gwa4 := HKwa.out.frozen 4
  have HV : Hid (VarsOk _) := hv.below (HLwa.out)
  go_wp2_with fail
  refine (pnum_any (cut46 (cut46 (bef 45 (bef 43 (trimV s)))).2).1 _ (by omega) HV.out).mono ?_
  rintro e wb hn
  rw [HNvb.out] at hn
  clear HV
  obtain ⟨rfl, hb⟩ := hn
  have HKwb : Hid (Blk wb w.heap.size 40 #[.int .i64 va, .int .i64 0, .int .i64 0, .string (S (aft 45 (bef 43 (trimV s)))), .string (S (aft 43 (trimV s)))]) := Blk.below HKwa.out hb (Blk.lt HKwa.out)
  have HLwb : Hid (Below w.heap.size w wb) := HLwa.out.trans (hb.mono HLwa.out.size)
  clear hb awa0 awa1 awa2 awa3 awa4 gwa0 gwa1 gwa2 gwa3 gwa4
  obtain ⟨awb0, awb1, awb2, awb3, awb4⟩ := cells5 HKwb.out
  have gwb0 := HKwb.out.frozen 0
  have gwb1 := HKwb.out.frozen 1
  have gwb2 := HKwb.out.frozen 2
  have gwb3 := HKwb.out.frozen 3
  have gwb4 := HKwb.out.frozen 4
  have HV : Hid (VarsOk _) := hv.below ((below_set HLwb.out 1 (.int .i64 vb)))
  go_wp2_with fail
  refine (pnum_any (cut46 (cut46 (bef 45 (bef 43 (trimV s)))).2).2 _ (by omega) HV.out).mono ?_
  rintro e wc hn
  rw [HNvc.out] at hn
  clear HV
  obtain ⟨⟨vc, te0, pe0, rfl⟩, hb⟩ := hn
  have HKwc : Hid (Blk wc w.heap.size 40 #[.int .i64 va, .int .i64 vb, .int .i64 0, .string (S (aft 45 (bef 43 (trimV s)))), .string (S (aft 43 (trimV s)))]) := Blk.below (Blk.set_ HKwb.out 1 (.int .i64 vb)) hb (Blk.lt (Blk.set_ HKwb.out 1 (.int .i64 vb)))
  have HLwc : Hid (Below w.heap.size w wc) := (below_set HLwb.out 1 (.int .i64 vb)).trans (hb.mono (below_set HLwb.out 1 (.int .i64 vb)).size)
  clear hb awb0 awb1 awb2 awb3 awb4 gwb0 gwb1 gwb2 gwb3 gwb4
  obtain ⟨awc0, awc1, awc2, awc3, awc4⟩ := cells5 HKwc.out
  have gwc0 := HKwc.out.frozen 0
  have gwc1 := HKwc.out.frozen 1
  have gwc2 := HKwc.out.frozen 2
  have gwc3 := HKwc.out.frozen 3
  have gwc4 := HKwc.out.frozen 4
  go_wp2
  have hkz : Blk _ w.heap.size 40 #[.int .i64 va, .int .i64 vb, .int .i64 vc, .string (S (aft 45 (bef 43 (trimV s)))), .string (S (aft 43 (trimV s)))] := (Blk.set_ HKwc.out 2 (.int .i64 vc))
  have hlz : Below w.heap.size w _ := (below_set HLwc.out 2 (.int .i64 vc))
  obtain ⟨z0, z1, z2, z3, z4⟩ := cells5 hkz
  have y0 := hkz.frozen 0
  have y1 := hkz.frozen 1
  have y2 := hkz.frozen 2
  have y3 := hkz.frozen 3
  have y4 := hkz.frozen 4
  have HKz := hide hkz
  have HLz := hide hlz
  clear hkz hlz
  go_region_held3 (fun w' => w'.cell? ⟨w.heap.size, 0, none⟩ = some (.int .i64 va) ∧ w'.cell? ⟨w.heap.size, 1, none⟩ = some (.int .i64 vb) ∧ w'.cell? ⟨w.heap.size, 2, none⟩ = some (.int .i64 vc) ∧ w'.cell? ⟨w.heap.size, 3, none⟩ = some (.string (S (aft 45 (bef 43 (trimV s))))) ∧ w'.cell? ⟨w.heap.size, 4, none⟩ = some (.string (S (aft 43 (trimV s))))) (first | with_reducible exact cells5 HKe.out | with_reducible exact cells5 (five HKe.out HLe.out).1 | go_keep)
    (first
      | (go_at_call 36
         refine (errnew_any _ _).mono ?_
         rintro e we ⟨⟨te, pe, rfl⟩, hbe⟩
         have hke : Blk we w.heap.size 40 #[.int .i64 va, .int .i64 vb, .int .i64 vc, .string (S (aft 45 (bef 43 (trimV s)))), .string (S (aft 43 (trimV s)))] := by
           first
             | with_reducible exact (Blk.drew HKz.out).below hbe (Blk.lt (Blk.drew HKz.out))
             | with_reducible exact (five (Blk.drew HKz.out) (below_drew HLz.out)).1.below hbe (Blk.lt (five (Blk.drew HKz.out) (below_drew HLz.out)).1)
         have hle : Below w.heap.size w we := by
           first
             | with_reducible exact (below_drew HLz.out).trans (hbe.mono (below_drew HLz.out).size)
             | with_reducible exact (five (Blk.drew HKz.out) (below_drew HLz.out)).2.trans (hbe.mono (five (Blk.drew HKz.out) (below_drew HLz.out)).2.size)
         have HKe := hide hke
         have HLe := hide hle
         obtain ⟨b0, b1, b2, b3, b4⟩ := cells5 hke
         have d0 := hke.frozen 0
         have d1 := hke.frozen 1
         have d2 := hke.frozen 2
         have d3 := hke.frozen 3
         have d4 := hke.frozen 4
         clear hke hle hbe)
      | fail)
  all_goals
    have hfv := five (x0 := .int .i64 va) (x1 := .int .i64 vb) (x2 := .int .i64 vc) (x3 := .string (S (aft 45 (bef 43 (trimV s))))) (x4 := .string (S (aft 43 (trimV s)))) HKe.out HLe.out
    generalize (((((we.setCell ⟨w.heap.size, 0, none⟩ (.int .i64 va)).setCell ⟨w.heap.size, 1, none⟩ (.int .i64 vb)).setCell ⟨w.heap.size, 2, none⟩ (.int .i64 vc)).setCell ⟨w.heap.size, 3, none⟩ (.string (S (aft 45 (bef 43 (trimV s)))))).setCell ⟨w.heap.size, 4, none⟩ (.string (S (aft 43 (trimV s))))) = wv at *
    obtain ⟨v0, v1, v2, v3, v4⟩ := cells5 hfv.1
    have HLv := hide hfv.2
    clear hfv
    go_wp2
    refine bodyPost_ret (v := .tuple #[.agg #[.int .i64 va, .int .i64 vb, .int .i64 vc, .string (S (aft 45 (bef 43 (trimV s)))), .string (S (aft 43 (trimV s)))], .iface te pe]) ?_ rfl ?_
    · simp [results, Tryd.f27, go_sem, b0, b1, b2, b3, b4, v0, v1, v2, v3, v4]
    · exact parse_err HP.out (v := ⟨va, vb, vc, (aft 45 (bef 43 (trimV s))), (aft 43 (trimV s))⟩) rfl (by first | (with_reducible exact HLe.out) | (with_reducible exact HLv.out))

set_option linter.unusedVariables false in
set_option linter.unusedSimpArgs false in
set_option maxHeartbeats 2000000 in
set_option maxRecDepth 100000 in
theorem parse_FF_O (s : Bs) (w : World) (hl : s.length ≤ 8589934400) (hv : VarsOk w) (hf1 : fnd 43 (trimV s) = false) (hf2 : fnd 45 (bef 43 (trimV s)) = false) (hcn : List.count 46 (bef 45 (bef 43 (trimV s))) = 2) (va : Int) (hnva : pnum (cut46 (bef 45 (bef 43 (trimV s)))).1 = some va) (vb : Int) (hnvb : pnum (cut46 (cut46 (bef 45 (bef 43 (trimV s)))).2).1 = some vb) (vc : Int) (hnvc : pnum (cut46 (cut46 (bef 45 (bef 43 (trimV s)))).2).2 = some vc) : Calls Tryd.prog 27 #[.string (S s)] w (ParseOut (trimV s) w) := by
  have hlt : (trimV s).length ≤ s.length := by unfold trimV; split <;> simp
  have hls1 := bef_len 43 (trimV s)
  have hlm := aft_len 43 (trimV s)
  have hls2 := bef_len 45 (bef 43 (trimV s))
  have hlp := aft_len 45 (bef 43 (trimV s))
  have hlr := cut_len (bef 45 (bef 43 (trimV s)))
  have hlr2 := cut_len (cut46 (bef 45 (bef 43 (trimV s)))).2
  have hx1 := cut_len1 (bef 45 (bef 43 (trimV s)))
  have hx2 := cut_len1 (cut46 (bef 45 (bef 43 (trimV s)))).2
  have hp := parseT_is (trimV s) (Or.inl hf1) (Or.inl hf2)
  rw [cut3 _ hcn] at hp
  rw [nums_ok hnva hnvb hnvc] at hp
  replace hp : parseT (trimV s) = some ⟨va, vb, vc, (aft 45 (bef 43 (trimV s))), (aft 43 (trimV s))⟩ := hp
  have HNva := hide hnva
  clear hnva
  have HNvb := hide hnvb
  clear hnvb
  have HNvc := hide hnvc
  clear hnvc
  have HP := hide hp
  clear hp
  have hk0 : Blk (w.alloc (.cells #[.int .i64 0, .int .i64 0, .int .i64 0, .string ⟨#[]⟩, .string ⟨#[]⟩] 40)) w.heap.size 40 #[.int .i64 0, .int .i64 0, .int .i64 0, .string ⟨#[]⟩, .string ⟨#[]⟩] := Blk.new _ _ _
  have hl0 : Below w.heap.size w (w.alloc (.cells #[.int .i64 0, .int .i64 0, .int .i64 0, .string ⟨#[]⟩, .string ⟨#[]⟩] 40)) := (Below.refl _ _).alloc (Nat.le_refl _) _
  go_enter Tryd.func27, Tryd.ntmps27
  go_wp2_with fail
  generalize w.alloc (.cells #[.int .i64 0, .int .i64 0, .int .i64 0, .string ⟨#[]⟩, .string ⟨#[]⟩] 40) = W0 at *
  have HKW0 := hide hk0
  have HLW0 := hide hl0
  clear hk0 hl0
  obtain ⟨aW00, aW01, aW02, aW03, aW04⟩ := cells5 HKW0.out
  have gW00 := HKW0.out.frozen 0
  have gW01 := HKW0.out.frozen 1
  have gW02 := HKW0.out.frozen 2
  have gW03 := HKW0.out.frozen 3
  have gW04 := HKW0.out.frozen 4
  refine (trim_any s _).mono ?_
  rintro e w1 ⟨rfl, hw⟩
  have hb := below_of_eq hw
  clear hw
  have HKw1 : Hid (Blk w1 w.heap.size 40 #[.int .i64 0, .int .i64 0, .int .i64 0, .string ⟨#[]⟩, .string ⟨#[]⟩]) := Blk.below HKW0.out hb (Blk.lt HKW0.out)
  have HLw1 : Hid (Below w.heap.size w w1) := HLW0.out.trans (hb.mono HLW0.out.size)
  clear hb aW00 aW01 aW02 aW03 aW04 gW00 gW01 gW02 gW03 gW04
  obtain ⟨aw10, aw11, aw12, aw13, aw14⟩ := cells5 HKw1.out
  have gw10 := HKw1.out.frozen 0
  have gw11 := HKw1.out.frozen 1
  have gw12 := HKw1.out.frozen 2
  have gw13 := HKw1.out.frozen 3
  have gw14 := HKw1.out.frozen 4
  go_wp2_with fail
  refine (zzcut_any 43 (trimV s) _ (by omega)).mono ?_
  rintro e w2 ⟨rfl, q, hq⟩
  rw [hf1]
  have HKw2 : Hid (Blk w2 w.heap.size 40 #[.int .i64 0, .int .i64 0, .int .i64 0, .string ⟨#[]⟩, .string ⟨#[]⟩]) := by rw [hq]; exact Blk.drewN HKw1.out q
  have HLw2 : Hid (Below w.heap.size w w2) := by rw [hq]; exact below_drewN HLw1.out q
  clear hq aw10 aw11 aw12 aw13 aw14 gw10 gw11 gw12 gw13 gw14
  obtain ⟨aw20, aw21, aw22, aw23, aw24⟩ := cells5 HKw2.out
  have gw20 := HKw2.out.frozen 0
  have gw21 := HKw2.out.frozen 1
  have gw22 := HKw2.out.frozen 2
  have gw23 := HKw2.out.frozen 3
  have gw24 := HKw2.out.frozen 4
  go_wp2_with fail
  refine (zzcut_any 45 (bef 43 (trimV s)) _ (by omega)).mono ?_
  rintro e w4 ⟨rfl, q, hq⟩
  rw [hf2]
  have HKw4 : Hid (Blk w4 w.heap.size 40 #[.int .i64 0, .int .i64 0, .int .i64 0, .string ⟨#[]⟩, .string (S (aft 43 (trimV s)))]) := by rw [hq]; exact Blk.drewN (Blk.set_ HKw2.out 4 (.string (S (aft 43 (trimV s))))) q
  have HLw4 : Hid (Below w.heap.size w w4) := by rw [hq]; exact below_drewN (below_set HLw2.out 4 (.string (S (aft 43 (trimV s))))) q
  clear hq aw20 aw21 aw22 aw23 aw24 gw20 gw21 gw22 gw23 gw24
  obtain ⟨aw40, aw41, aw42, aw43, aw44⟩ := cells5 HKw4.out
  have gw40 := HKw4.out.frozen 0
  have gw41 := HKw4.out.frozen 1
  have gw42 := HKw4.out.frozen 2
  have gw43 := HKw4.out.frozen 3
  have gw44 := HKw4.out.frozen 4
  go_wp2_with fail
  refine (zzcount_any (bef 45 (bef 43 (trimV s))) _ (by omega)).mono ?_
  rintro e w7 ⟨rfl, hw⟩
  have hb := below_of_eq hw
  clear hw
  have HKw7 : Hid (Blk w7 w.heap.size 40 #[.int .i64 0, .int .i64 0, .int .i64 0, .string (S (aft 45 (bef 43 (trimV s)))), .string (S (aft 43 (trimV s)))]) := Blk.below (Blk.set_ HKw4.out 3 (.string (S (aft 45 (bef 43 (trimV s)))))) hb (Blk.lt (Blk.set_ HKw4.out 3 (.string (S (aft 45 (bef 43 (trimV s)))))))
  have HLw7 : Hid (Below w.heap.size w w7) := (below_set HLw4.out 3 (.string (S (aft 45 (bef 43 (trimV s)))))).trans (hb.mono (below_set HLw4.out 3 (.string (S (aft 45 (bef 43 (trimV s)))))).size)
  clear hb aw40 aw41 aw42 aw43 aw44 gw40 gw41 gw42 gw43 gw44
  obtain ⟨aw70, aw71, aw72, aw73, aw74⟩ := cells5 HKw7.out
  have gw70 := HKw7.out.frozen 0
  have gw71 := HKw7.out.frozen 1
  have gw72 := HKw7.out.frozen 2
  have gw73 := HKw7.out.frozen 3
  have gw74 := HKw7.out.frozen 4
  rw [hcn]
  go_wp2_with fail
  refine (cutdot_any (bef 45 (bef 43 (trimV s))) _ (by omega)).mono ?_
  rintro e w8 ⟨rfl, q, hq⟩
  have HKw8 : Hid (Blk w8 w.heap.size 40 #[.int .i64 0, .int .i64 0, .int .i64 0, .string (S (aft 45 (bef 43 (trimV s)))), .string (S (aft 43 (trimV s)))]) := by rw [hq]; exact Blk.drewN HKw7.out q
  have HLw8 : Hid (Below w.heap.size w w8) := by rw [hq]; exact below_drewN HLw7.out q
  clear hq aw70 aw71 aw72 aw73 aw74 gw70 gw71 gw72 gw73 gw74
  obtain ⟨aw80, aw81, aw82, aw83, aw84⟩ := cells5 HKw8.out
  have gw80 := HKw8.out.frozen 0
  have gw81 := HKw8.out.frozen 1
  have gw82 := HKw8.out.frozen 2
  have gw83 := HKw8.out.frozen 3
  have gw84 := HKw8.out.frozen 4
  have HV : Hid (VarsOk _) := hv.below (HLw8.out)
  go_wp2_with fail
  refine (pnum_any (cut46 (bef 45 (bef 43 (trimV s)))).1 _ (by omega) HV.out).mono ?_
  rintro e w9 hn
  rw [HNva.out] at hn
  clear HV
  obtain ⟨rfl, hb⟩ := hn
  have HKw9 : Hid (Blk w9 w.heap.size 40 #[.int .i64 0, .int .i64 0, .int .i64 0, .string (S (aft 45 (bef 43 (trimV s)))), .string (S (aft 43 (trimV s)))]) := Blk.below HKw8.out hb (Blk.lt HKw8.out)
  have HLw9 : Hid (Below w.heap.size w w9) := HLw8.out.trans (hb.mono HLw8.out.size)
  clear hb aw80 aw81 aw82 aw83 aw84 gw80 gw81 gw82 gw83 gw84
  obtain ⟨aw90, aw91, aw92, aw93, aw94⟩ := cells5 HKw9.out
  have gw90 := HKw9.out.frozen 0
  have gw91 := HKw9.out.frozen 1
  have gw92 := HKw9.out.frozen 2
  have gw93 := HKw9.out.frozen 3
  have gw94 := HKw9.out.frozen 4
  go_wp2_with fail
  refine (cutdot_any (cut46 (bef 45 (bef 43 (trimV s)))).2 _ (by omega)).mono ?_
  rintro e wa ⟨rfl, q, hq⟩
  have HKwa : Hid (Blk wa w.heap.size 40 #[.int .i64 va, .int .i64 0, .int .i64 0, .string (S (aft 45 (bef 43 (trimV s)))), .string (S (aft 43 (trimV s)))]) := by rw [hq]; exact Blk.drewN (Blk.set_ HKw9.out 0 (.int .i64 va)) q
  have HLwa : Hid (Below w.heap.size w wa) := by rw [hq]; exact below_drewN (below_set HLw9.out 0 (.int .i64 va)) q
  clear hq aw90 aw91 aw92 aw93 aw94 gw90 gw91 gw92 gw93 gw94
  obtain ⟨awa0, awa1, awa2, awa3, awa4⟩ := cells5 HKwa.out
  have gwa0 := HKwa.out.frozen 0
  have gwa1 := HKwa.out.frozen 1
  have gwa2 := HKwa.out.frozen 2
  have gwa3 := HKwa.out.frozen 3
  have gwa4 := HKwa.out.frozen 4
  have HV : Hid (VarsOk _) := hv.below (HLwa.out)
  go_wp2_with fail
  refine (pnum_any (cut46 (cut46 (bef 45 (bef 43 (trimV s)))).2).1 _ (by omega) HV.out).mono ?_
  rintro e wb hn
  rw [HNvb.out] at hn
  clear HV
  obtain ⟨rfl, hb⟩ := hn
  have HKwb : Hid (Blk wb w.heap.size 40 #[.int .i64 va, .int .i64 0, .int .i64 0, .string (S (aft 45 (bef 43 (trimV s)))), .string (S (aft 43 (trimV s)))]) := Blk.below HKwa.out hb (Blk.lt HKwa.out)
  have HLwb : Hid (Below w.heap.size w wb) := HLwa.out.trans (hb.mono HLwa.out.size)
  clear hb awa0 awa1 awa2 awa3 awa4 gwa0 gwa1 gwa2 gwa3 gwa4
  obtain ⟨awb0, awb1, awb2, awb3, awb4⟩ := cells5 HKwb.out
  have gwb0 := HKwb.out.frozen 0
  have gwb1 := HKwb.out.frozen 1
  have gwb2 := HKwb.out.frozen 2
  have gwb3 := HKwb.out.frozen 3
  have gwb4 := HKwb.out.frozen 4
  have HV : Hid (VarsOk _) := hv.below ((below_set HLwb.out 1 (.int .i64 vb)))
  go_wp2_with fail
  refine (pnum_any (cut46 (cut46 (bef 45 (bef 43 (trimV s)))).2).2 _ (by omega) HV.out).mono ?_
  rintro e wc hn
  rw [HNvc.out] at hn
  clear HV
  obtain ⟨rfl, hb⟩ := hn
  have HKwc : Hid (Blk wc w.heap.size 40 #[.int .i64 va, .int .i64 vb, .int .i64 0, .string (S (aft 45 (bef 43 (trimV s)))), .string (S (aft 43 (trimV s)))]) := Blk.below (Blk.set_ HKwb.out 1 (.int .i64 vb)) hb (Blk.lt (Blk.set_ HKwb.out 1 (.int .i64 vb)))
  have HLwc : Hid (Below w.heap.size w wc) := (below_set HLwb.out 1 (.int .i64 vb)).trans (hb.mono (below_set HLwb.out 1 (.int .i64 vb)).size)
  clear hb awb0 awb1 awb2 awb3 awb4 gwb0 gwb1 gwb2 gwb3 gwb4
  obtain ⟨awc0, awc1, awc2, awc3, awc4⟩ := cells5 HKwc.out
  have gwc0 := HKwc.out.frozen 0
  have gwc1 := HKwc.out.frozen 1
  have gwc2 := HKwc.out.frozen 2
  have gwc3 := HKwc.out.frozen 3
  have gwc4 := HKwc.out.frozen 4
  go_wp2_with fail
  have hkz : Blk (wc.setCell ⟨w.heap.size, 2, none⟩ (.int .i64 vc)) w.heap.size 40 #[.int .i64 va, .int .i64 vb, .int .i64 vc, .string (S (aft 45 (bef 43 (trimV s)))), .string (S (aft 43 (trimV s)))] := (Blk.set_ HKwc.out 2 (.int .i64 vc))
  have hlz : Below w.heap.size w (wc.setCell ⟨w.heap.size, 2, none⟩ (.int .i64 vc)) := (below_set HLwc.out 2 (.int .i64 vc))
  have hfv := five (x0 := .int .i64 va) (x1 := .int .i64 vb) (x2 := .int .i64 vc) (x3 := .string (S (aft 45 (bef 43 (trimV s))))) (x4 := .string (S (aft 43 (trimV s)))) hkz hlz
  clear hkz hlz
  generalize (((((((wc.setCell ⟨w.heap.size, 2, none⟩ (.int .i64 vc))).setCell ⟨w.heap.size, 0, none⟩ (.int .i64 va)).setCell ⟨w.heap.size, 1, none⟩ (.int .i64 vb)).setCell ⟨w.heap.size, 2, none⟩ (.int .i64 vc)).setCell ⟨w.heap.size, 3, none⟩ (.string (S (aft 45 (bef 43 (trimV s)))))).setCell ⟨w.heap.size, 4, none⟩ (.string (S (aft 43 (trimV s))))) = wv at *
  obtain ⟨v0, v1, v2, v3, v4⟩ := cells5 hfv.1
  have HLv := hide hfv.2
  clear hfv
  go_wp2
  refine bodyPost_ret (v := .tuple #[.agg #[.int .i64 va, .int .i64 vb, .int .i64 vc, .string (S (aft 45 (bef 43 (trimV s)))), .string (S (aft 43 (trimV s)))], .nilIface]) ?_ rfl ?_
  · simp [results, Tryd.f27, go_sem, v0, v1, v2, v3, v4]
  · exact parse_ok HP.out (v := ⟨va, vb, vc, (aft 45 (bef 43 (trimV s))), (aft 43 (trimV s))⟩) rfl HLv.out

end Go.Proofs.YtaoeelhgfdknfaaDoor
