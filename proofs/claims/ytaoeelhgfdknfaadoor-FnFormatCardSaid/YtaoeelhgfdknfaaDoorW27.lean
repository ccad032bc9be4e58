/- The law FnFormat: it answers true at every version. No condition but that the library's variables hold what their initialisers laid. Printed by gen_w27.py. -/
import Derived.Test.YtaoeelhgfdknfaaDoorW26
import Derived.Test.YtaoeelhgfdknfaaDoorW20
namespace Go.Proofs.YtaoeelhgfdknfaaDoor
open Go.RowKit
open Go.Lib (decDigits byteCells)

attribute [local go_sem] S_size S_toList E_toList S_extract

theorem fmt100 : numsT 1 0 0 ++ preT [] ++ metT [] = [49, 46, 48, 46, 48] := by kernel_rfl
theorem format_100 (W : World) (ht : Lib.TabBelow Tryd.prog W.heap.size W "internal/strconv.uint64pow10" .u64 Lib.pow10Tab) : Calls Tryd.prog 14 #[.agg #[.int .i64 1, .int .i64 0, .int .i64 0, .string ⟨#[]⟩, .string ⟨#[]⟩]] W fun e w' => e = .returned (.string ⟨#[49, 46, 48, 46, 48]⟩) ∧ Below W.heap.size W w' := by
  have h := format_any 1 0 0 [] [] W ht (by decide) (by decide) (by decide) (by simp) (by simp)
  rw [fmt100] at h
  exact h
theorem format_v (v : Ver) (hp : properB v = true) (h1 : v.pre.length ≤ 4294967296) (h2 : v.met.length ≤ 4294967296) (W : World) (ht : Lib.TabBelow Tryd.prog W.heap.size W "internal/strconv.uint64pow10" .u64 Lib.pow10Tab) :
    Calls Tryd.prog 14 #[.agg #[.int .i64 v.maj, .int .i64 v.min, .int .i64 v.pat, .string (S v.pre), .string (S v.met)]] W fun e w' => e = .returned (.string (S (fmtB v))) ∧ Below W.heap.size W w' := by
  obtain ⟨maj, mi, pat, pre, met⟩ := v
  have hq := hp
  simp only [properB, Bool.and_eq_true, decide_eq_true_eq] at hq
  obtain ⟨⟨⟨⟨⟨⟨⟨q1, q2⟩, q3⟩, q4⟩, q5⟩, q6⟩, _⟩, _⟩ := hq
  have h := format_any maj.toNat mi.toNat pat.toNat pre met W ht (by omega) (by omega) (by omega) h1 h2
  rw [Int.toNat_of_nonneg q1, Int.toNat_of_nonneg q2, Int.toNat_of_nonneg q3] at h
  exact h
theorem fmt_len (v : Ver) (hp : properB v = true) (h1 : v.pre.length ≤ 2147483647) (h2 : v.met.length ≤ 2147483647) : (fmtB v).length ≤ 8589934400 := by
  obtain ⟨maj, mi, pat, pre, met⟩ := v
  have hq := hp
  simp only [properB, Bool.and_eq_true, decide_eq_true_eq] at hq
  obtain ⟨⟨⟨⟨⟨⟨⟨q1, q2⟩, q3⟩, q4⟩, q5⟩, q6⟩, _⟩, _⟩ := hq
  have l1 := dd_len 17 maj.toNat (by omega)
  have l2 := dd_len 17 mi.toNat (by omega)
  have l3 := dd_len 17 pat.toNat (by omega)
  have l4 : (preT pre).length ≤ pre.length + 1 := by unfold preT; split <;> simp
  have l5 : (metT met).length ≤ met.length + 1 := by unfold metT; split <;> simp
  simp only [fmtB, numsT, List.length_append, List.length_cons]
  simp only at h1 h2
  omega

set_option linter.unusedVariables false in
set_option linter.unusedSimpArgs false in
set_option maxHeartbeats 2000000 in
set_option maxRecDepth 100000 in
theorem format_big (v : Ver) (w : World) (hf : fitsV v = false) : Calls Tryd.prog 5 #[.agg #[.int .i64 v.maj, .int .i64 v.min, .int .i64 v.pat, .string (S v.pre), .string (S v.met)]] w fun e w' => e = .returned (.bool true) ∧ Below w.heap.size w w' := by
  have hl0 : Below w.heap.size w (w.alloc (.cells #[.int .i64 v.maj, .int .i64 v.min, .int .i64 v.pat, .string (S v.pre), .string (S v.met)] 23)) := (Below.refl _ _).alloc (Nat.le_refl _) _
  have hk0 := Blk.new w 23 #[.int .i64 v.maj, .int .i64 v.min, .int .i64 v.pat, .string (S v.pre), .string (S v.met)]
  have hfit := fun W => fits1_any v W
  unfold Ver.cells at hfit
  rw [hf] at hfit
  have HFIT := hide hfit
  have HL0 := hide hl0
  obtain ⟨a0, a1, a2, a3, a4⟩ := cells5 hk0
  clear hfit hl0 hk0
  go_enter Tryd.func5, Tryd.ntmps5
  go_wp2_with fail
  generalize w.alloc (.cells #[.int .i64 v.maj, .int .i64 v.min, .int .i64 v.pat, .string (S v.pre), .string (S v.met)] 23) = w0 at *
  refine (HFIT.out _).mono ?_
  rintro e w1 ⟨rfl, hb⟩
  have HL1 := hide (HL0.out.trans (hb.mono HL0.out.size))
  clear hb
  go_wp2
  go_ret
  exact ⟨rfl, HL1.out⟩

set_option linter.unusedVariables false in
set_option linter.unusedSimpArgs false in
set_option maxHeartbeats 2000000 in
set_option maxRecDepth 100000 in
theorem format_not (v : Ver) (w : World) (hv : VarsOk w) (ht : Lib.TabIs Tryd.prog w "internal/strconv.uint64pow10" .u64 Lib.pow10Tab) (hf : fitsV v = true) (hp : properB v = false) (h1 : v.pre.length ≤ 2147483647) (h2 : v.met.length ≤ 2147483647) : Calls Tryd.prog 5 #[.agg #[.int .i64 v.maj, .int .i64 v.min, .int .i64 v.pat, .string (S v.pre), .string (S v.met)]] w fun e w' => e = .returned (.bool true) ∧ Below w.heap.size w w' := by
  have hk0 := Blk.new w 23 #[.int .i64 v.maj, .int .i64 v.min, .int .i64 v.pat, .string (S v.pre), .string (S v.met)]
  have hl0 : Below w.heap.size w (w.alloc (.cells #[.int .i64 v.maj, .int .i64 v.min, .int .i64 v.pat, .string (S v.pre), .string (S v.met)] 23)) := (Below.refl _ _).alloc (Nat.le_refl _) _
  have hfit := fun W => fits1_any v W
  have hver := fun W => version_any v W
  have hpr := fun W => proper_any v W (by omega) (by omega)
  unfold Ver.cells ProperOut at *
  have HT : Hid (∀ W, Below w.heap.size w W → Lib.TabBelow Tryd.prog W.heap.size W "internal/strconv.uint64pow10" .u64 Lib.pow10Tab) := fun W hW => Lib.tabBelow_of_tabIs ((Lib.tabBelow_of_tabIs ht).on hW).here
  have HVA : Hid (∀ W, Below w.heap.size w W → VarsOk W) := fun W hW => hv.below hW
  have HL0 := hide hl0
  have HK0 := hide hk0
  have HFIT := hide hfit
  have HVER := hide hver
  have HPR := hide hpr
  obtain ⟨a0, a1, a2, a3, a4⟩ := cells5 hk0
  clear hk0 hl0 hfit hver hpr ht hv
  rw [hf] at HFIT
  go_enter Tryd.func5, Tryd.ntmps5
  go_wp2_with fail
  generalize w.alloc (.cells #[.int .i64 v.maj, .int .i64 v.min, .int .i64 v.pat, .string (S v.pre), .string (S v.met)] 23) = w0 at *
  refine (HFIT.out _).mono ?_
  rintro e w1 ⟨rfl, hb⟩
  have HL1 := hide (HL0.out.trans (hb.mono HL0.out.size))
  have HK1 := hide (HK0.out.below hb HK0.out.lt)
  clear hb
  obtain ⟨a0, a1, a2, a3, a4⟩ := cells5 HK1.out
  go_wp2_with fail
  refine (HVER.out _).mono ?_
  rintro e w2 ⟨rfl, hb⟩
  have HL2 := hide (HL1.out.trans (hb.mono HL1.out.size))
  have HK2 := hide (HK1.out.below hb HK1.out.lt)
  clear hb
  obtain ⟨a0, a1, a2, a3, a4⟩ := cells5 HK2.out
  go_wp2_with fail
  refine (HPR.out _).mono ?_
  rintro e w3 ⟨rfl, hb⟩
  have HL3 := hide (HL2.out.trans (hb.mono HL2.out.size))
  have HK3 := hide (HK2.out.below hb HK2.out.lt)
  clear hb
  obtain ⟨a0, a1, a2, a3, a4⟩ := cells5 HK3.out
  rw [hp]
  go_wp2_with fail
  refine (format_100 _ (HT.out _ HL3.out)).mono ?_
  rintro e w4 ⟨rfl, hb⟩
  have HL4 := hide (HL3.out.trans (hb.mono HL3.out.size))
  have HK4 := hide (HK3.out.below hb HK3.out.lt)
  clear hb
  obtain ⟨a0, a1, a2, a3, a4⟩ := cells5 HK4.out
  go_wp2
  go_ret
  exact ⟨rfl, HL4.out⟩

set_option linter.unusedVariables false in
set_option linter.unusedSimpArgs false in
set_option maxHeartbeats 2000000 in
set_option maxRecDepth 100000 in
theorem format_is (v : Ver) (w : World) (hv : VarsOk w) (ht : Lib.TabIs Tryd.prog w "internal/strconv.uint64pow10" .u64 Lib.pow10Tab) (hf : fitsV v = true) (hp : properB v = true) (h1 : v.pre.length ≤ 2147483647) (h2 : v.met.length ≤ 2147483647) : Calls Tryd.prog 5 #[.agg #[.int .i64 v.maj, .int .i64 v.min, .int .i64 v.pat, .string (S v.pre), .string (S v.met)]] w fun e w' => e = .returned (.bool true) ∧ Below w.heap.size w w' := by
  have hk0 := Blk.new w 23 #[.int .i64 v.maj, .int .i64 v.min, .int .i64 v.pat, .string (S v.pre), .string (S v.met)]
  have hl0 : Below w.heap.size w (w.alloc (.cells #[.int .i64 v.maj, .int .i64 v.min, .int .i64 v.pat, .string (S v.pre), .string (S v.met)] 23)) := (Below.refl _ _).alloc (Nat.le_refl _) _
  have hfit := fun W => fits1_any v W
  have hver := fun W => version_any v W
  have hpr := fun W => proper_any v W (by omega) (by omega)
  unfold Ver.cells ProperOut at *
  have HT : Hid (∀ W, Below w.heap.size w W → Lib.TabBelow Tryd.prog W.heap.size W "internal/strconv.uint64pow10" .u64 Lib.pow10Tab) := fun W hW => Lib.tabBelow_of_tabIs ((Lib.tabBelow_of_tabIs ht).on hW).here
  have HVA : Hid (∀ W, Below w.heap.size w W → VarsOk W) := fun W hW => hv.below hW
  have HL0 := hide hl0
  have HK0 := hide hk0
  have HFIT := hide hfit
  have HVER := hide hver
  have HPR := hide hpr
  obtain ⟨a0, a1, a2, a3, a4⟩ := cells5 hk0
  clear hk0 hl0 hfit hver hpr ht hv
  rw [hf] at HFIT
  go_enter Tryd.func5, Tryd.ntmps5
  go_wp2_with fail
  generalize w.alloc (.cells #[.int .i64 v.maj, .int .i64 v.min, .int .i64 v.pat, .string (S v.pre), .string (S v.met)] 23) = w0 at *
  refine (HFIT.out _).mono ?_
  rintro e w1 ⟨rfl, hb⟩
  have HL1 := hide (HL0.out.trans (hb.mono HL0.out.size))
  have HK1 := hide (HK0.out.below hb HK0.out.lt)
  clear hb
  obtain ⟨a0, a1, a2, a3, a4⟩ := cells5 HK1.out
  have HFV := hide (format_v v hp (by omega) (by omega))
  have hsp : ∀ W : World, Calls Tryd.prog 12 #[.string (S (fmtB v))] W fun e w' => e = .returned (.tuple #[.agg #[.int .i64 v.maj, .int .i64 v.min, .int .i64 v.pat, .string (S v.pre), .string (S v.met)], .int .i64 1]) ∧ Below W.heap.size W w' := fun W => by
    have h := spec_any (fmtB v) W (fmt_len v hp h1 h2)
    unfold SpecOut at h
    rw [fmt_spec hp] at h
    exact h
  have him : ∀ W : World, VarsOk W → Calls Tryd.prog 13 #[.string (S (fmtB v))] W fun e w' => e = .returned (.tuple #[.agg #[.int .i64 v.maj, .int .i64 v.min, .int .i64 v.pat, .string (S v.pre), .string (S v.met)], .bool true]) ∧ Below W.heap.size W w' := fun W hW => by
    have h := impl_any (fmtB v) W (fmt_len v hp h1 h2) hW
    rw [fmt_impl hp] at h
    exact h
  have HSP := hide hsp
  have HIM := hide him
  clear hsp him
  go_wp2_with fail
  refine (HVER.out _).mono ?_
  rintro e w2 ⟨rfl, hb⟩
  have HL2 := hide (HL1.out.trans (hb.mono HL1.out.size))
  have HK2 := hide (HK1.out.below hb HK1.out.lt)
  clear hb
  obtain ⟨a0, a1, a2, a3, a4⟩ := cells5 HK2.out
  go_wp2_with fail
  refine (HPR.out _).mono ?_
  rintro e w3 ⟨rfl, hb⟩
  have HL3 := hide (HL2.out.trans (hb.mono HL2.out.size))
  have HK3 := hide (HK2.out.below hb HK2.out.lt)
  clear hb
  obtain ⟨a0, a1, a2, a3, a4⟩ := cells5 HK3.out
  rw [hp]
  go_wp2_with fail
  refine (HFV.out _ (HT.out _ HL3.out)).mono ?_
  rintro e w4 ⟨rfl, hb⟩
  have HL4 := hide (HL3.out.trans (hb.mono HL3.out.size))
  have HK4 := hide (HK3.out.below hb HK3.out.lt)
  clear hb
  obtain ⟨a0, a1, a2, a3, a4⟩ := cells5 HK4.out
  go_wp2_with fail
  refine (HSP.out _).mono ?_
  rintro e w5 ⟨rfl, hb⟩
  have hk : Blk (w5.alloc (.cells #[.int .i64 v.maj, .int .i64 v.min, .int .i64 v.pat, .string (S v.pre), .string (S v.met)] 26)) w5.heap.size 26 #[.int .i64 v.maj, .int .i64 v.min, .int .i64 v.pat, .string (S v.pre), .string (S v.met)] := Blk.new _ _ _
  have HL5 := hide ((HL4.out.trans (hb.mono HL4.out.size)).alloc (HL4.out.trans (hb.mono HL4.out.size)).size (.cells #[.int .i64 v.maj, .int .i64 v.min, .int .i64 v.pat, .string (S v.pre), .string (S v.met)] 26))
  have HK5 : Hid (Blk (w5.alloc (.cells #[.int .i64 v.maj, .int .i64 v.min, .int .i64 v.pat, .string (S v.pre), .string (S v.met)] 26)) w.heap.size 23 #[.int .i64 v.maj, .int .i64 v.min, .int .i64 v.pat, .string (S v.pre), .string (S v.met)]) := (HK4.out.below hb HK4.out.lt).alloc _
  have hlt5 : w.heap.size < w5.heap.size := (HK4.out.below hb HK4.out.lt).lt
  have hne5 : ¬ w.heap.size = w5.heap.size := by omega
  obtain ⟨a0, a1, a2, a3, a4⟩ := cells5 (HK4.out.below hb HK4.out.lt)
  obtain ⟨x0, x1, x2, x3, x4⟩ := cells5 HK5.out
  clear hb
  go_wp2_with fail
  generalize w5.alloc (.cells #[.int .i64 v.maj, .int .i64 v.min, .int .i64 v.pat, .string (S v.pre), .string (S v.met)] 26) = w6 at *
  generalize w5.heap.size = g1 at *
  have HG6 := hide hk
  clear hk
  obtain ⟨a0, a1, a2, a3, a4⟩ := cells5 HK5.out
  go_wp2_with fail
  refine (HFV.out _ (HT.out _ HL5.out)).mono ?_
  rintro e w7 ⟨rfl, hb⟩
  have HG7 := hide (HG6.out.below hb HG6.out.lt)
  have HL7 := hide (HL5.out.trans (hb.mono HL5.out.size))
  have HK7 := hide (HK5.out.below hb HK5.out.lt)
  clear hb
  obtain ⟨a0, a1, a2, a3, a4⟩ := cells5 HK7.out
  go_wp2_with fail
  refine (HIM.out _ (HVA.out _ HL7.out)).mono ?_
  rintro e w8 ⟨rfl, hb⟩
  have hk : Blk (w8.alloc (.cells #[.int .i64 v.maj, .int .i64 v.min, .int .i64 v.pat, .string (S v.pre), .string (S v.met)] 23)) w8.heap.size 23 #[.int .i64 v.maj, .int .i64 v.min, .int .i64 v.pat, .string (S v.pre), .string (S v.met)] := Blk.new _ _ _
  have HL8 := hide ((HL7.out.trans (hb.mono HL7.out.size)).alloc (HL7.out.trans (hb.mono HL7.out.size)).size (.cells #[.int .i64 v.maj, .int .i64 v.min, .int .i64 v.pat, .string (S v.pre), .string (S v.met)] 23))
  have HK8 : Hid (Blk (w8.alloc (.cells #[.int .i64 v.maj, .int .i64 v.min, .int .i64 v.pat, .string (S v.pre), .string (S v.met)] 23)) w.heap.size 23 #[.int .i64 v.maj, .int .i64 v.min, .int .i64 v.pat, .string (S v.pre), .string (S v.met)]) := (HK7.out.below hb HK7.out.lt).alloc _
  have HG8 : Hid (Blk (w8.alloc (.cells #[.int .i64 v.maj, .int .i64 v.min, .int .i64 v.pat, .string (S v.pre), .string (S v.met)] 23)) g1 26 #[.int .i64 v.maj, .int .i64 v.min, .int .i64 v.pat, .string (S v.pre), .string (S v.met)]) := (HG7.out.below hb HG7.out.lt).alloc _
  clear hb
  go_wp2_with fail
  generalize w8.alloc (.cells #[.int .i64 v.maj, .int .i64 v.min, .int .i64 v.pat, .string (S v.pre), .string (S v.met)] 23) = w9 at *
  generalize w8.heap.size = g2 at *
  have HH8 := hide hk
  clear hk
  obtain ⟨a0, a1, a2, a3, a4⟩ := cells5 HK8.out
  obtain ⟨b0, b1, b2, b3, b4⟩ := cells5 HG8.out
  obtain ⟨c0, c1, c2, c3, c4⟩ := cells5 HH8.out
  go_region_held3 (fun w' => (w'.cell? ⟨w.heap.size, 0, none⟩ = some (.int .i64 v.maj) ∧ w'.cell? ⟨w.heap.size, 1, none⟩ = some (.int .i64 v.min) ∧ w'.cell? ⟨w.heap.size, 2, none⟩ = some (.int .i64 v.pat) ∧ w'.cell? ⟨w.heap.size, 3, none⟩ = some (.string (S v.pre)) ∧ w'.cell? ⟨w.heap.size, 4, none⟩ = some (.string (S v.met))) ∧ (w'.cell? ⟨g1, 0, none⟩ = some (.int .i64 v.maj) ∧ w'.cell? ⟨g1, 1, none⟩ = some (.int .i64 v.min) ∧ w'.cell? ⟨g1, 2, none⟩ = some (.int .i64 v.pat) ∧ w'.cell? ⟨g1, 3, none⟩ = some (.string (S v.pre)) ∧ w'.cell? ⟨g1, 4, none⟩ = some (.string (S v.met))) ∧ (w'.cell? ⟨g2, 0, none⟩ = some (.int .i64 v.maj) ∧ w'.cell? ⟨g2, 1, none⟩ = some (.int .i64 v.min) ∧ w'.cell? ⟨g2, 2, none⟩ = some (.int .i64 v.pat) ∧ w'.cell? ⟨g2, 3, none⟩ = some (.string (S v.pre)) ∧ w'.cell? ⟨g2, 4, none⟩ = some (.string (S v.met)))) (first | with_reducible exact ⟨cells5 HAx.out, cells5 HBx.out, cells5 HCx.out⟩ | go_keep)
    (first
      | (go_at_call 9
         with_reducible refine (HVER.out _).mono ?_
         rintro e wx ⟨rfl, hbx⟩
         have HAx : Hid (Blk wx w.heap.size 23 #[.int .i64 v.maj, .int .i64 v.min, .int .i64 v.pat, .string (S v.pre), .string (S v.met)]) := (Blk.drew HK8.out).below hbx HK8.out.lt
         have HBx : Hid (Blk wx g1 26 #[.int .i64 v.maj, .int .i64 v.min, .int .i64 v.pat, .string (S v.pre), .string (S v.met)]) := (Blk.drew HG8.out).below hbx HG8.out.lt
         have HCx : Hid (Blk wx g2 23 #[.int .i64 v.maj, .int .i64 v.min, .int .i64 v.pat, .string (S v.pre), .string (S v.met)]) := (Blk.drew HH8.out).below hbx HH8.out.lt
         have HX : Hid (Below w.heap.size w wx) := (below_drew HL8.out).trans (hbx.mono (below_drew HL8.out).size)
         clear hbx)
      | fail)
  all_goals
    go_wp2_with fail
    go_ret
    exact ⟨rfl, HX.out⟩

theorem fnFormat_any (v : Ver) (w : World) (hv : VarsOk w) (ht : Lib.TabIs Tryd.prog w "internal/strconv.uint64pow10" .u64 Lib.pow10Tab) : Calls Tryd.prog 5 #[.agg v.cells] w fun e w' => e = .returned (.bool true) ∧ Below w.heap.size w w' := by
  unfold Ver.cells
  cases hf : fitsV v
  · exact format_big v w hf
  · have h := hf
    simp only [fitsV, Bool.and_eq_true, decide_eq_true_eq] at h
    cases hp : properB v
    · exact format_not v w hv ht hf hp h.1 h.2
    · exact format_is v w hv ht hf hp h.1 h.2

end Go.Proofs.YtaoeelhgfdknfaaDoor
