/- semver's Compare, impl's CompareTexts, and the law FnCompareTexts: it answers true at every two texts. No condition but that the library's two error variables hold errors. Printed by gen_w21.py. -/
import Derived.Test.YtaoeelhgfdknfaaDoorW20
namespace Go.Proofs.YtaoeelhgfdknfaaDoor
open Go.RowKit

attribute [local go_sem] S_size S_toList E_toList S_extract

theorem parse_pre {t : Bs} {v : Ver} (h : parseT t = some v) : v.pre.length ≤ t.length ∧ v.met.length ≤ t.length := by
  unfold parseT at h
  split at h
  · cases h
  split at h
  · cases h
  rw [Option.map_eq_some_iff] at h
  obtain ⟨n, _, rfl⟩ := h
  have h1 := aft_len 45 (bef 43 t)
  have h2 := bef_len 43 t
  exact ⟨by show (aft 45 (bef 43 t)).length ≤ _; omega, aft_len 43 t⟩
theorem trim_le (s : Bs) : (trimV s).length ≤ s.length := by unfold trimV; split <;> simp
theorem short_of {v : Ver} (h : properB v = true) : shortB v.pre = true := by
  unfold properB at h
  simp only [Bool.and_eq_true, Bool.or_eq_true] at h
  rcases h.1.2 with h1 | h1
  · have : v.pre = [] := by simpa using h1
    rw [this]; decide
  · exact h1.2

set_option linter.unusedVariables false in
set_option linter.unusedSimpArgs false in
set_option maxHeartbeats 2000000 in
set_option maxRecDepth 100000 in
theorem scmp_any (s r : Bs) (a b : Ver) (w : World) (hs : s.length ≤ 2147483647) (hr : r.length ≤ 2147483647) (hv : VarsOk w) (ha : parseT (trimV s) = some a) (hb : parseT (trimV r) = some b) (pa : properB a = true) (pb : properB b = true) : Calls Tryd.prog 29 #[.string (S s), .string (S r)] w (CmpOut (verC a b) w) := by
  have l1 := trim_le s
  have l2 := trim_le r
  have l3 := (parse_pre ha).1
  have l4 := (parse_pre hb).1
  have hpa : ∀ W : World, VarsOk W → Calls Tryd.prog 27 #[.string (S s)] W fun e w' => e = .returned (.tuple #[.agg #[.int .i64 a.maj, .int .i64 a.min, .int .i64 a.pat, .string (S a.pre), .string (S a.met)], .nilIface]) ∧ Below W.heap.size W w' := fun W hW => by
    have h := parse_any s W (by omega) hW
    unfold ParseOut at h
    rw [ha] at h
    exact h
  have hpb : ∀ W : World, VarsOk W → Calls Tryd.prog 27 #[.string (S r)] W fun e w' => e = .returned (.tuple #[.agg #[.int .i64 b.maj, .int .i64 b.min, .int .i64 b.pat, .string (S b.pre), .string (S b.met)], .nilIface]) ∧ Below W.heap.size W w' := fun W hW => by
    have h := parse_any r W (by omega) hW
    unfold ParseOut at h
    rw [hb] at h
    exact h
  have hcm : ∀ W : World, Calls Tryd.prog 20 #[.agg #[.int .i64 a.maj, .int .i64 a.min, .int .i64 a.pat, .string (S a.pre), .string (S a.met)], .agg #[.int .i64 b.maj, .int .i64 b.min, .int .i64 b.pat, .string (S b.pre), .string (S b.met)]] W (CmpOut (verC a b) W) := fun W => vcompare_any a b W (by omega) (by omega) pa pb
  have HPA := hide hpa
  have HPB := hide hpb
  have HCM := hide hcm
  have HVA := hide hv
  clear hpa hpb hcm ha hb pa pb hv
  unfold CmpOut at HCM ⊢
  go_enter Tryd.func29, Tryd.ntmps29
  go_wp2_with fail
  refine (HPA.out _ HVA.out).mono ?_
  rintro e w1 ⟨rfl, hb⟩
  have hk : Blk (w1.alloc (.cells #[.int .i64 a.maj, .int .i64 a.min, .int .i64 a.pat, .string (S a.pre), .string (S a.met)] 40)) w1.heap.size 40 #[.int .i64 a.maj, .int .i64 a.min, .int .i64 a.pat, .string (S a.pre), .string (S a.met)] := Blk.new _ _ _
  have hL : Below w.heap.size w (w1.alloc (.cells #[.int .i64 a.maj, .int .i64 a.min, .int .i64 a.pat, .string (S a.pre), .string (S a.met)] 40)) := hb.alloc hb.size _
  go_wp2_with fail
  generalize w1.alloc (.cells #[.int .i64 a.maj, .int .i64 a.min, .int .i64 a.pat, .string (S a.pre), .string (S a.met)] 40) = w2 at *
  generalize w1.heap.size = g1 at *
  have HA2 := hide hk
  have HL2 := hide hL
  clear hk hL hb
  refine (HPB.out _ (HVA.out.below HL2.out)).mono ?_
  rintro e w3 ⟨rfl, hb⟩
  have hB : Blk (w3.alloc (.cells #[.int .i64 b.maj, .int .i64 b.min, .int .i64 b.pat, .string (S b.pre), .string (S b.met)] 40)) w3.heap.size 40 #[.int .i64 b.maj, .int .i64 b.min, .int .i64 b.pat, .string (S b.pre), .string (S b.met)] := Blk.new _ _ _
  have hA : Blk (w3.alloc (.cells #[.int .i64 b.maj, .int .i64 b.min, .int .i64 b.pat, .string (S b.pre), .string (S b.met)] 40)) g1 40 #[.int .i64 a.maj, .int .i64 a.min, .int .i64 a.pat, .string (S a.pre), .string (S a.met)] := (HA2.out.below hb HA2.out.lt).alloc _
  have hL : Below w.heap.size w (w3.alloc (.cells #[.int .i64 b.maj, .int .i64 b.min, .int .i64 b.pat, .string (S b.pre), .string (S b.met)] 40)) := (HL2.out.trans (hb.mono HL2.out.size)).alloc (HL2.out.trans (hb.mono HL2.out.size)).size _
  obtain ⟨a0, a1, a2, a3, a4⟩ := cells5 hA
  obtain ⟨b0, b1, b2, b3, b4⟩ := cells5 hB
  have HL4 := hide hL
  clear hA hB hL hb
  go_wp2_with fail
  refine (HCM.out _).mono ?_
  rintro e w5 ⟨rfl, hb⟩
  have HL5 := hide (HL4.out.trans (hb.mono HL4.out.size))
  clear hb
  go_wp2_with fail
  go_ret
  exact ⟨rfl, HL5.out⟩

set_option linter.unusedVariables false in
set_option linter.unusedSimpArgs false in
set_option maxHeartbeats 2000000 in
set_option maxRecDepth 100000 in
theorem ct_any (s r : Bs) (a b : Ver) (w : World) (hs : s.length ≤ 2147483647) (hr : r.length ≤ 2147483647) (hv : VarsOk w) (ha : parseT (trimV s) = some a) (hb : parseT (trimV r) = some b) (pa : properB a = true) (pb : properB b = true) : Calls Tryd.prog 15 #[.string (S s), .string (S r)] w (CmpOut (verC a b) w) := by
  have h := scmp_any s r a b w hs hr hv ha hb pa pb
  have H := hide h
  clear h hv ha hb pa pb
  unfold CmpOut at H ⊢
  go_enter Tryd.func15, Tryd.ntmps15
  go_wp2_with fail
  refine H.out.mono ?_
  rintro e w1 ⟨rfl, hb⟩
  have HB := hide hb
  clear hb
  go_wp2_with fail
  go_ret
  exact ⟨rfl, HB.out⟩
theorem pv1 : parseT (trimV [49, 46, 48, 46, 48]) = some vc1 := by kernel_rfl
theorem pv2 : parseT (trimV [50, 46, 48, 46, 48]) = some vc2 := by kernel_rfl
theorem ct12 (W : World) (hv : VarsOk W) : Calls Tryd.prog 15 #[.string ⟨#[49, 46, 48, 46, 48]⟩, .string ⟨#[50, 46, 48, 46, 48]⟩] W fun e w' => e = .returned (.int .i64 (-1)) ∧ Below W.heap.size W w' := by
  have h := ct_any [49, 46, 48, 46, 48] [50, 46, 48, 46, 48] vc1 vc2 W (by decide) (by decide) hv pv1 pv2 (by decide) (by decide)
  rw [show verC vc1 vc2 = -1 by decide] at h
  exact h

set_option linter.unusedVariables false in
set_option linter.unusedSimpArgs false in
set_option maxHeartbeats 2000000 in
set_option maxRecDepth 100000 in
theorem texts_big1 (s r : Bs) (w : World) (hv : VarsOk w) (hs : ¬ s.length ≤ 2147483647) : Calls Tryd.prog 6 #[.string (S s), .string (S r)] w fun e w' => e = .returned (.bool true) ∧ Below w.heap.size w w' := by
  have h1 : (2147483647 : Int) < (s.length : Int) := by omega
  have h2 : decide ((2147483647 : Int) < (s.length : Int)) = true := decide_eq_true h1
  go_enter Tryd.func6, Tryd.ntmps6
  go_wp2
  go_ret
  exact ⟨rfl, Below.refl _ _⟩

set_option linter.unusedVariables false in
set_option linter.unusedSimpArgs false in
set_option maxHeartbeats 2000000 in
set_option maxRecDepth 100000 in
theorem texts_big2 (s r : Bs) (w : World) (hv : VarsOk w) (hs : s.length ≤ 2147483647) (hr : ¬ r.length ≤ 2147483647) : Calls Tryd.prog 6 #[.string (S s), .string (S r)] w fun e w' => e = .returned (.bool true) ∧ Below w.heap.size w w' := by
  have h1 : ¬ (2147483647 : Int) < (s.length : Int) := by omega
  have h2 : decide ((2147483647 : Int) < (s.length : Int)) = false := decide_eq_false h1
  have h3 : (2147483647 : Int) < (r.length : Int) := by omega
  have h4 : decide ((2147483647 : Int) < (r.length : Int)) = true := decide_eq_true h3
  go_enter Tryd.func6, Tryd.ntmps6
  go_wp2
  go_ret
  exact ⟨rfl, Below.refl _ _⟩

set_option linter.unusedVariables false in
set_option linter.unusedSimpArgs false in
set_option maxHeartbeats 2000000 in
set_option maxRecDepth 100000 in
theorem texts_n1 (s r : Bs) (w : World) (hv : VarsOk w) (hs : s.length ≤ 2147483647) (hr : r.length ≤ 2147483647) (a b : Ver) (k1 k2 : Int) (e1 : specP s = (a, k1)) (e2 : specP r = (b, k2)) (hk1 : ¬ k1 = 1) : Calls Tryd.prog 6 #[.string (S s), .string (S r)] w fun e w' => e = .returned (.bool true) ∧ Below w.heap.size w w' := by
  have h1 : ¬ (2147483647 : Int) < (s.length : Int) := by omega
  have h2 : decide ((2147483647 : Int) < (s.length : Int)) = false := decide_eq_false h1
  have h3 : ¬ (2147483647 : Int) < (r.length : Int) := by omega
  have h4 : decide ((2147483647 : Int) < (r.length : Int)) = false := decide_eq_false h3
  have hct := ct12
  have HCT := hide hct
  have HVA := hide hv
  clear hct hv
  have n1 : ((k1 : Int) != 1) = true := by rw [bne_iff_ne]; exact hk1
  have m1 : ¬ k1 = 1 := hk1
  have hps : ∀ W : World, Calls Tryd.prog 12 #[.string (S s)] W fun e w' => e = .returned (.tuple #[.agg #[.int .i64 a.maj, .int .i64 a.min, .int .i64 a.pat, .string (S a.pre), .string (S a.met)], .int .i64 k1]) ∧ Below W.heap.size W w' := fun W => by
    have h := spec_any s W (by omega)
    unfold SpecOut at h
    rw [e1] at h
    exact h
  have HPs := hide hps
  clear hps e1
  have hpr : ∀ W : World, Calls Tryd.prog 12 #[.string (S r)] W fun e w' => e = .returned (.tuple #[.agg #[.int .i64 b.maj, .int .i64 b.min, .int .i64 b.pat, .string (S b.pre), .string (S b.met)], .int .i64 k2]) ∧ Below W.heap.size W w' := fun W => by
    have h := spec_any r W (by omega)
    unfold SpecOut at h
    rw [e2] at h
    exact h
  have HPr := hide hpr
  clear hpr e2
  go_enter Tryd.func6, Tryd.ntmps6
  go_wp2_with fail
  refine (HPs.out _).mono ?_
  rintro e w1 ⟨rfl, hb⟩
  have hk : Blk (w1.alloc (.cells #[.int .i64 a.maj, .int .i64 a.min, .int .i64 a.pat, .string (S a.pre), .string (S a.met)] 26)) w1.heap.size 26 #[.int .i64 a.maj, .int .i64 a.min, .int .i64 a.pat, .string (S a.pre), .string (S a.met)] := Blk.new _ _ _
  have hL : Below w.heap.size w (w1.alloc (.cells #[.int .i64 a.maj, .int .i64 a.min, .int .i64 a.pat, .string (S a.pre), .string (S a.met)] 26)) := hb.alloc hb.size _
  go_wp2_with fail
  generalize w1.alloc (.cells #[.int .i64 a.maj, .int .i64 a.min, .int .i64 a.pat, .string (S a.pre), .string (S a.met)] 26) = w2 at *
  generalize w1.heap.size = g1 at *
  have HA2 := hide hk
  have HL2 := hide hL
  clear hk hL hb
  refine (HPr.out _).mono ?_
  rintro e w3 ⟨rfl, hb⟩
  have hB : Blk (w3.alloc (.cells #[.int .i64 b.maj, .int .i64 b.min, .int .i64 b.pat, .string (S b.pre), .string (S b.met)] 26)) w3.heap.size 26 #[.int .i64 b.maj, .int .i64 b.min, .int .i64 b.pat, .string (S b.pre), .string (S b.met)] := Blk.new _ _ _
  have hA : Blk (w3.alloc (.cells #[.int .i64 b.maj, .int .i64 b.min, .int .i64 b.pat, .string (S b.pre), .string (S b.met)] 26)) g1 26 #[.int .i64 a.maj, .int .i64 a.min, .int .i64 a.pat, .string (S a.pre), .string (S a.met)] := (HA2.out.below hb HA2.out.lt).alloc _
  have hL : Below w.heap.size w (w3.alloc (.cells #[.int .i64 b.maj, .int .i64 b.min, .int .i64 b.pat, .string (S b.pre), .string (S b.met)] 26)) := (HL2.out.trans (hb.mono HL2.out.size)).alloc (HL2.out.trans (hb.mono HL2.out.size)).size _
  obtain ⟨a0, a1, a2, a3, a4⟩ := cells5 hA
  obtain ⟨b0, b1, b2, b3, b4⟩ := cells5 hB
  have HA4 := hide hA
  have HB4 := hide hB
  have HL4 := hide hL
  clear hA hB hL hb
  go_wp2_with fail
  refine (HCT.out _ (HVA.out.below HL4.out)).mono ?_
  rintro e w9 ⟨rfl, hb⟩
  have HL9 := hide (HL4.out.trans (hb.mono HL4.out.size))
  clear hb
  go_wp2_with fail
  go_ret
  exact ⟨rfl, HL9.out⟩

set_option linter.unusedVariables false in
set_option linter.unusedSimpArgs false in
set_option maxHeartbeats 2000000 in
set_option maxRecDepth 100000 in
theorem texts_n2 (s r : Bs) (w : World) (hv : VarsOk w) (hs : s.length ≤ 2147483647) (hr : r.length ≤ 2147483647) (a b : Ver) (k2 : Int) (e1 : specP s = (a, 1)) (e2 : specP r = (b, k2)) (hk2 : ¬ k2 = 1) : Calls Tryd.prog 6 #[.string (S s), .string (S r)] w fun e w' => e = .returned (.bool true) ∧ Below w.heap.size w w' := by
  have h1 : ¬ (2147483647 : Int) < (s.length : Int) := by omega
  have h2 : decide ((2147483647 : Int) < (s.length : Int)) = false := decide_eq_false h1
  have h3 : ¬ (2147483647 : Int) < (r.length : Int) := by omega
  have h4 : decide ((2147483647 : Int) < (r.length : Int)) = false := decide_eq_false h3
  have hct := ct12
  have HCT := hide hct
  have HVA := hide hv
  clear hct hv
  have n2 : ((k2 : Int) != 1) = true := by rw [bne_iff_ne]; exact hk2
  have m2 : ¬ k2 = 1 := hk2
  have hps : ∀ W : World, Calls Tryd.prog 12 #[.string (S s)] W fun e w' => e = .returned (.tuple #[.agg #[.int .i64 a.maj, .int .i64 a.min, .int .i64 a.pat, .string (S a.pre), .string (S a.met)], .int .i64 1]) ∧ Below W.heap.size W w' := fun W => by
    have h := spec_any s W (by omega)
    unfold SpecOut at h
    rw [e1] at h
    exact h
  have HPs := hide hps
  clear hps e1
  have hpr : ∀ W : World, Calls Tryd.prog 12 #[.string (S r)] W fun e w' => e = .returned (.tuple #[.agg #[.int .i64 b.maj, .int .i64 b.min, .int .i64 b.pat, .string (S b.pre), .string (S b.met)], .int .i64 k2]) ∧ Below W.heap.size W w' := fun W => by
    have h := spec_any r W (by omega)
    unfold SpecOut at h
    rw [e2] at h
    exact h
  have HPr := hide hpr
  clear hpr e2
  go_enter Tryd.func6, Tryd.ntmps6
  go_wp2_with fail
  refine (HPs.out _).mono ?_
  rintro e w1 ⟨rfl, hb⟩
  have hk : Blk (w1.alloc (.cells #[.int .i64 a.maj, .int .i64 a.min, .int .i64 a.pat, .string (S a.pre), .string (S a.met)] 26)) w1.heap.size 26 #[.int .i64 a.maj, .int .i64 a.min, .int .i64 a.pat, .string (S a.pre), .string (S a.met)] := Blk.new _ _ _
  have hL : Below w.heap.size w (w1.alloc (.cells #[.int .i64 a.maj, .int .i64 a.min, .int .i64 a.pat, .string (S a.pre), .string (S a.met)] 26)) := hb.alloc hb.size _
  go_wp2_with fail
  generalize w1.alloc (.cells #[.int .i64 a.maj, .int .i64 a.min, .int .i64 a.pat, .string (S a.pre), .string (S a.met)] 26) = w2 at *
  generalize w1.heap.size = g1 at *
  have HA2 := hide hk
  have HL2 := hide hL
  clear hk hL hb
  refine (HPr.out _).mono ?_
  rintro e w3 ⟨rfl, hb⟩
  have hB : Blk (w3.alloc (.cells #[.int .i64 b.maj, .int .i64 b.min, .int .i64 b.pat, .string (S b.pre), .string (S b.met)] 26)) w3.heap.size 26 #[.int .i64 b.maj, .int .i64 b.min, .int .i64 b.pat, .string (S b.pre), .string (S b.met)] := Blk.new _ _ _
  have hA : Blk (w3.alloc (.cells #[.int .i64 b.maj, .int .i64 b.min, .int .i64 b.pat, .string (S b.pre), .string (S b.met)] 26)) g1 26 #[.int .i64 a.maj, .int .i64 a.min, .int .i64 a.pat, .string (S a.pre), .string (S a.met)] := (HA2.out.below hb HA2.out.lt).alloc _
  have hL : Below w.heap.size w (w3.alloc (.cells #[.int .i64 b.maj, .int .i64 b.min, .int .i64 b.pat, .string (S b.pre), .string (S b.met)] 26)) := (HL2.out.trans (hb.mono HL2.out.size)).alloc (HL2.out.trans (hb.mono HL2.out.size)).size _
  obtain ⟨a0, a1, a2, a3, a4⟩ := cells5 hA
  obtain ⟨b0, b1, b2, b3, b4⟩ := cells5 hB
  have HA4 := hide hA
  have HB4 := hide hB
  have HL4 := hide hL
  clear hA hB hL hb
  go_wp2_with fail
  refine (HCT.out _ (HVA.out.below HL4.out)).mono ?_
  rintro e w9 ⟨rfl, hb⟩
  have HL9 := hide (HL4.out.trans (hb.mono HL4.out.size))
  clear hb
  go_wp2_with fail
  go_ret
  exact ⟨rfl, HL9.out⟩

set_option linter.unusedVariables false in
set_option linter.unusedSimpArgs false in
set_option maxHeartbeats 2000000 in
set_option maxRecDepth 100000 in
theorem texts_n3 (s r : Bs) (w : World) (hv : VarsOk w) (hs : s.length ≤ 2147483647) (hr : r.length ≤ 2147483647) (a b : Ver) (la : a.pre.length ≤ 4294967295 ∧ a.met.length ≤ 4294967295) (lb : b.pre.length ≤ 4294967295 ∧ b.met.length ≤ 4294967295) (e1 : specP s = (a, 1)) (e2 : specP r = (b, 1)) (p1 : properB a = false) : Calls Tryd.prog 6 #[.string (S s), .string (S r)] w fun e w' => e = .returned (.bool true) ∧ Below w.heap.size w w' := by
  have h1 : ¬ (2147483647 : Int) < (s.length : Int) := by omega
  have h2 : decide ((2147483647 : Int) < (s.length : Int)) = false := decide_eq_false h1
  have h3 : ¬ (2147483647 : Int) < (r.length : Int) := by omega
  have h4 : decide ((2147483647 : Int) < (r.length : Int)) = false := decide_eq_false h3
  have hct := ct12
  have HCT := hide hct
  have HVA := hide hv
  clear hct hv
  have hpr1 : ∀ W : World, Calls Tryd.prog 8 #[.agg #[.int .i64 a.maj, .int .i64 a.min, .int .i64 a.pat, .string (S a.pre), .string (S a.met)]] W fun e w' => e = .returned (.bool false) ∧ Below W.heap.size W w' := fun W => by
    have h := proper_any a W (by omega) (by omega)
    unfold ProperOut at h
    rw [p1] at h
    exact h
  have HPR1 := hide hpr1
  clear hpr1
  have hps : ∀ W : World, Calls Tryd.prog 12 #[.string (S s)] W fun e w' => e = .returned (.tuple #[.agg #[.int .i64 a.maj, .int .i64 a.min, .int .i64 a.pat, .string (S a.pre), .string (S a.met)], .int .i64 1]) ∧ Below W.heap.size W w' := fun W => by
    have h := spec_any s W (by omega)
    unfold SpecOut at h
    rw [e1] at h
    exact h
  have HPs := hide hps
  clear hps e1
  have hpr : ∀ W : World, Calls Tryd.prog 12 #[.string (S r)] W fun e w' => e = .returned (.tuple #[.agg #[.int .i64 b.maj, .int .i64 b.min, .int .i64 b.pat, .string (S b.pre), .string (S b.met)], .int .i64 1]) ∧ Below W.heap.size W w' := fun W => by
    have h := spec_any r W (by omega)
    unfold SpecOut at h
    rw [e2] at h
    exact h
  have HPr := hide hpr
  clear hpr e2
  go_enter Tryd.func6, Tryd.ntmps6
  go_wp2_with fail
  refine (HPs.out _).mono ?_
  rintro e w1 ⟨rfl, hb⟩
  have hk : Blk (w1.alloc (.cells #[.int .i64 a.maj, .int .i64 a.min, .int .i64 a.pat, .string (S a.pre), .string (S a.met)] 26)) w1.heap.size 26 #[.int .i64 a.maj, .int .i64 a.min, .int .i64 a.pat, .string (S a.pre), .string (S a.met)] := Blk.new _ _ _
  have hL : Below w.heap.size w (w1.alloc (.cells #[.int .i64 a.maj, .int .i64 a.min, .int .i64 a.pat, .string (S a.pre), .string (S a.met)] 26)) := hb.alloc hb.size _
  go_wp2_with fail
  generalize w1.alloc (.cells #[.int .i64 a.maj, .int .i64 a.min, .int .i64 a.pat, .string (S a.pre), .string (S a.met)] 26) = w2 at *
  generalize w1.heap.size = g1 at *
  have HA2 := hide hk
  have HL2 := hide hL
  clear hk hL hb
  refine (HPr.out _).mono ?_
  rintro e w3 ⟨rfl, hb⟩
  have hB : Blk (w3.alloc (.cells #[.int .i64 b.maj, .int .i64 b.min, .int .i64 b.pat, .string (S b.pre), .string (S b.met)] 26)) w3.heap.size 26 #[.int .i64 b.maj, .int .i64 b.min, .int .i64 b.pat, .string (S b.pre), .string (S b.met)] := Blk.new _ _ _
  have hA : Blk (w3.alloc (.cells #[.int .i64 b.maj, .int .i64 b.min, .int .i64 b.pat, .string (S b.pre), .string (S b.met)] 26)) g1 26 #[.int .i64 a.maj, .int .i64 a.min, .int .i64 a.pat, .string (S a.pre), .string (S a.met)] := (HA2.out.below hb HA2.out.lt).alloc _
  have hL : Below w.heap.size w (w3.alloc (.cells #[.int .i64 b.maj, .int .i64 b.min, .int .i64 b.pat, .string (S b.pre), .string (S b.met)] 26)) := (HL2.out.trans (hb.mono HL2.out.size)).alloc (HL2.out.trans (hb.mono HL2.out.size)).size _
  obtain ⟨a0, a1, a2, a3, a4⟩ := cells5 hA
  obtain ⟨b0, b1, b2, b3, b4⟩ := cells5 hB
  go_wp2_with fail
  generalize w3.alloc (.cells #[.int .i64 b.maj, .int .i64 b.min, .int .i64 b.pat, .string (S b.pre), .string (S b.met)] 26) = w4 at *
  generalize w3.heap.size = g2 at *
  have HA4 := hide hA
  have HB4 := hide hB
  have HL4 := hide hL
  clear hA hB hL hb
  refine (HPR1.out _).mono ?_
  rintro e w5 ⟨rfl, hb⟩
  have HA5 : Hid (Blk w5 g1 26 #[.int .i64 a.maj, .int .i64 a.min, .int .i64 a.pat, .string (S a.pre), .string (S a.met)]) := HA4.out.below hb HA4.out.lt
  have HB5 : Hid (Blk w5 g2 26 #[.int .i64 b.maj, .int .i64 b.min, .int .i64 b.pat, .string (S b.pre), .string (S b.met)]) := HB4.out.below hb HB4.out.lt
  have HL5 := hide (HL4.out.trans (hb.mono HL4.out.size))
  clear hb a0 a1 a2 a3 a4 b0 b1 b2 b3 b4
  obtain ⟨a0, a1, a2, a3, a4⟩ := cells5 HA5.out
  obtain ⟨b0, b1, b2, b3, b4⟩ := cells5 HB5.out
  go_wp2_with fail
  refine (HCT.out _ (HVA.out.below HL5.out)).mono ?_
  rintro e w9 ⟨rfl, hb⟩
  have HL9 := hide (HL5.out.trans (hb.mono HL5.out.size))
  clear hb
  go_wp2_with fail
  go_ret
  exact ⟨rfl, HL9.out⟩

set_option linter.unusedVariables false in
set_option linter.unusedSimpArgs false in
set_option maxHeartbeats 2000000 in
set_option maxRecDepth 100000 in
theorem texts_n4 (s r : Bs) (w : World) (hv : VarsOk w) (hs : s.length ≤ 2147483647) (hr : r.length ≤ 2147483647) (a b : Ver) (la : a.pre.length ≤ 4294967295 ∧ a.met.length ≤ 4294967295) (lb : b.pre.length ≤ 4294967295 ∧ b.met.length ≤ 4294967295) (e1 : specP s = (a, 1)) (e2 : specP r = (b, 1)) (p1 : properB a = true) (p2 : properB b = false) : Calls Tryd.prog 6 #[.string (S s), .string (S r)] w fun e w' => e = .returned (.bool true) ∧ Below w.heap.size w w' := by
  have h1 : ¬ (2147483647 : Int) < (s.length : Int) := by omega
  have h2 : decide ((2147483647 : Int) < (s.length : Int)) = false := decide_eq_false h1
  have h3 : ¬ (2147483647 : Int) < (r.length : Int) := by omega
  have h4 : decide ((2147483647 : Int) < (r.length : Int)) = false := decide_eq_false h3
  have hct := ct12
  have HCT := hide hct
  have HVA := hide hv
  clear hct hv
  have hpr1 : ∀ W : World, Calls Tryd.prog 8 #[.agg #[.int .i64 a.maj, .int .i64 a.min, .int .i64 a.pat, .string (S a.pre), .string (S a.met)]] W fun e w' => e = .returned (.bool true) ∧ Below W.heap.size W w' := fun W => by
    have h := proper_any a W (by omega) (by omega)
    unfold ProperOut at h
    rw [p1] at h
    exact h
  have HPR1 := hide hpr1
  clear hpr1
  have hpr2 : ∀ W : World, Calls Tryd.prog 8 #[.agg #[.int .i64 b.maj, .int .i64 b.min, .int .i64 b.pat, .string (S b.pre), .string (S b.met)]] W fun e w' => e = .returned (.bool false) ∧ Below W.heap.size W w' := fun W => by
    have h := proper_any b W (by omega) (by omega)
    unfold ProperOut at h
    rw [p2] at h
    exact h
  have HPR2 := hide hpr2
  clear hpr2
  have hps : ∀ W : World, Calls Tryd.prog 12 #[.string (S s)] W fun e w' => e = .returned (.tuple #[.agg #[.int .i64 a.maj, .int .i64 a.min, .int .i64 a.pat, .string (S a.pre), .string (S a.met)], .int .i64 1]) ∧ Below W.heap.size W w' := fun W => by
    have h := spec_any s W (by omega)
    unfold SpecOut at h
    rw [e1] at h
    exact h
  have HPs := hide hps
  clear hps e1
  have hpr : ∀ W : World, Calls Tryd.prog 12 #[.string (S r)] W fun e w' => e = .returned (.tuple #[.agg #[.int .i64 b.maj, .int .i64 b.min, .int .i64 b.pat, .string (S b.pre), .string (S b.met)], .int .i64 1]) ∧ Below W.heap.size W w' := fun W => by
    have h := spec_any r W (by omega)
    unfold SpecOut at h
    rw [e2] at h
    exact h
  have HPr := hide hpr
  clear hpr e2
  go_enter Tryd.func6, Tryd.ntmps6
  go_wp2_with fail
  refine (HPs.out _).mono ?_
  rintro e w1 ⟨rfl, hb⟩
  have hk : Blk (w1.alloc (.cells #[.int .i64 a.maj, .int .i64 a.min, .int .i64 a.pat, .string (S a.pre), .string (S a.met)] 26)) w1.heap.size 26 #[.int .i64 a.maj, .int .i64 a.min, .int .i64 a.pat, .string (S a.pre), .string (S a.met)] := Blk.new _ _ _
  have hL : Below w.heap.size w (w1.alloc (.cells #[.int .i64 a.maj, .int .i64 a.min, .int .i64 a.pat, .string (S a.pre), .string (S a.met)] 26)) := hb.alloc hb.size _
  go_wp2_with fail
  generalize w1.alloc (.cells #[.int .i64 a.maj, .int .i64 a.min, .int .i64 a.pat, .string (S a.pre), .string (S a.met)] 26) = w2 at *
  generalize w1.heap.size = g1 at *
  have HA2 := hide hk
  have HL2 := hide hL
  clear hk hL hb
  refine (HPr.out _).mono ?_
  rintro e w3 ⟨rfl, hb⟩
  have hB : Blk (w3.alloc (.cells #[.int .i64 b.maj, .int .i64 b.min, .int .i64 b.pat, .string (S b.pre), .string (S b.met)] 26)) w3.heap.size 26 #[.int .i64 b.maj, .int .i64 b.min, .int .i64 b.pat, .string (S b.pre), .string (S b.met)] := Blk.new _ _ _
  have hA : Blk (w3.alloc (.cells #[.int .i64 b.maj, .int .i64 b.min, .int .i64 b.pat, .string (S b.pre), .string (S b.met)] 26)) g1 26 #[.int .i64 a.maj, .int .i64 a.min, .int .i64 a.pat, .string (S a.pre), .string (S a.met)] := (HA2.out.below hb HA2.out.lt).alloc _
  have hL : Below w.heap.size w (w3.alloc (.cells #[.int .i64 b.maj, .int .i64 b.min, .int .i64 b.pat, .string (S b.pre), .string (S b.met)] 26)) := (HL2.out.trans (hb.mono HL2.out.size)).alloc (HL2.out.trans (hb.mono HL2.out.size)).size _
  obtain ⟨a0, a1, a2, a3, a4⟩ := cells5 hA
  obtain ⟨b0, b1, b2, b3, b4⟩ := cells5 hB
  go_wp2_with fail
  generalize w3.alloc (.cells #[.int .i64 b.maj, .int .i64 b.min, .int .i64 b.pat, .string (S b.pre), .string (S b.met)] 26) = w4 at *
  generalize w3.heap.size = g2 at *
  have HA4 := hide hA
  have HB4 := hide hB
  have HL4 := hide hL
  clear hA hB hL hb
  refine (HPR1.out _).mono ?_
  rintro e w5 ⟨rfl, hb⟩
  have HA5 : Hid (Blk w5 g1 26 #[.int .i64 a.maj, .int .i64 a.min, .int .i64 a.pat, .string (S a.pre), .string (S a.met)]) := HA4.out.below hb HA4.out.lt
  have HB5 : Hid (Blk w5 g2 26 #[.int .i64 b.maj, .int .i64 b.min, .int .i64 b.pat, .string (S b.pre), .string (S b.met)]) := HB4.out.below hb HB4.out.lt
  have HL5 := hide (HL4.out.trans (hb.mono HL4.out.size))
  clear hb a0 a1 a2 a3 a4 b0 b1 b2 b3 b4
  obtain ⟨a0, a1, a2, a3, a4⟩ := cells5 HA5.out
  obtain ⟨b0, b1, b2, b3, b4⟩ := cells5 HB5.out
  go_wp2_with fail
  refine (HPR2.out _).mono ?_
  rintro e w6 ⟨rfl, hb⟩
  have HA6 : Hid (Blk w6 g1 26 #[.int .i64 a.maj, .int .i64 a.min, .int .i64 a.pat, .string (S a.pre), .string (S a.met)]) := HA5.out.below hb HA5.out.lt
  have HB6 : Hid (Blk w6 g2 26 #[.int .i64 b.maj, .int .i64 b.min, .int .i64 b.pat, .string (S b.pre), .string (S b.met)]) := HB5.out.below hb HB5.out.lt
  have HL6 := hide (HL5.out.trans (hb.mono HL5.out.size))
  clear hb a0 a1 a2 a3 a4 b0 b1 b2 b3 b4
  obtain ⟨a0, a1, a2, a3, a4⟩ := cells5 HA6.out
  obtain ⟨b0, b1, b2, b3, b4⟩ := cells5 HB6.out
  go_wp2_with fail
  refine (HCT.out _ (HVA.out.below HL6.out)).mono ?_
  rintro e w9 ⟨rfl, hb⟩
  have HL9 := hide (HL6.out.trans (hb.mono HL6.out.size))
  clear hb
  go_wp2_with fail
  go_ret
  exact ⟨rfl, HL9.out⟩

set_option linter.unusedVariables false in
set_option linter.unusedSimpArgs false in
set_option maxHeartbeats 2000000 in
set_option maxRecDepth 100000 in
theorem texts_y (s r : Bs) (w : World) (hv : VarsOk w) (hs : s.length ≤ 2147483647) (hr : r.length ≤ 2147483647) (a b : Ver) (la : a.pre.length ≤ 4294967295 ∧ a.met.length ≤ 4294967295) (lb : b.pre.length ≤ 4294967295 ∧ b.met.length ≤ 4294967295) (e1 : specP s = (a, 1)) (e2 : specP r = (b, 1)) (p1 : properB a = true) (p2 : properB b = true) (q1 : parseT (trimV s) = some a) (q2 : parseT (trimV r) = some b) : Calls Tryd.prog 6 #[.string (S s), .string (S r)] w fun e w' => e = .returned (.bool true) ∧ Below w.heap.size w w' := by
  have h1 : ¬ (2147483647 : Int) < (s.length : Int) := by omega
  have h2 : decide ((2147483647 : Int) < (s.length : Int)) = false := decide_eq_false h1
  have h3 : ¬ (2147483647 : Int) < (r.length : Int) := by omega
  have h4 : decide ((2147483647 : Int) < (r.length : Int)) = false := decide_eq_false h3
  have hct := ct12
  have HCT := hide hct
  have HVA := hide hv
  clear hct hv
  have hpr1 : ∀ W : World, Calls Tryd.prog 8 #[.agg #[.int .i64 a.maj, .int .i64 a.min, .int .i64 a.pat, .string (S a.pre), .string (S a.met)]] W fun e w' => e = .returned (.bool true) ∧ Below W.heap.size W w' := fun W => by
    have h := proper_any a W (by omega) (by omega)
    unfold ProperOut at h
    rw [p1] at h
    exact h
  have HPR1 := hide hpr1
  clear hpr1
  have hpr2 : ∀ W : World, Calls Tryd.prog 8 #[.agg #[.int .i64 b.maj, .int .i64 b.min, .int .i64 b.pat, .string (S b.pre), .string (S b.met)]] W fun e w' => e = .returned (.bool true) ∧ Below W.heap.size W w' := fun W => by
    have h := proper_any b W (by omega) (by omega)
    unfold ProperOut at h
    rw [p2] at h
    exact h
  have HPR2 := hide hpr2
  clear hpr2
  have hcm : ∀ W : World, Calls Tryd.prog 11 #[.agg #[.int .i64 a.maj, .int .i64 a.min, .int .i64 a.pat, .string (S a.pre), .string (S a.met)], .agg #[.int .i64 b.maj, .int .i64 b.min, .int .i64 b.pat, .string (S b.pre), .string (S b.met)]] W fun e w' => e = .returned (.int .i64 (verC a b)) ∧ Below W.heap.size W w' := fun W => scompare_any a b W la.1 lb.1 (short_of p1) (short_of p2)
  have hcx : ∀ W : World, VarsOk W → Calls Tryd.prog 15 #[.string (S s), .string (S r)] W fun e w' => e = .returned (.int .i64 (verC a b)) ∧ Below W.heap.size W w' := fun W hW => ct_any s r a b W hs hr hW q1 q2 p1 p2
  have HCM := hide hcm
  have HCX := hide hcx
  clear hcm hcx q1 q2
  have hps : ∀ W : World, Calls Tryd.prog 12 #[.string (S s)] W fun e w' => e = .returned (.tuple #[.agg #[.int .i64 a.maj, .int .i64 a.min, .int .i64 a.pat, .string (S a.pre), .string (S a.met)], .int .i64 1]) ∧ Below W.heap.size W w' := fun W => by
    have h := spec_any s W (by omega)
    unfold SpecOut at h
    rw [e1] at h
    exact h
  have HPs := hide hps
  clear hps e1
  have hpr : ∀ W : World, Calls Tryd.prog 12 #[.string (S r)] W fun e w' => e = .returned (.tuple #[.agg #[.int .i64 b.maj, .int .i64 b.min, .int .i64 b.pat, .string (S b.pre), .string (S b.met)], .int .i64 1]) ∧ Below W.heap.size W w' := fun W => by
    have h := spec_any r W (by omega)
    unfold SpecOut at h
    rw [e2] at h
    exact h
  have HPr := hide hpr
  clear hpr e2
  go_enter Tryd.func6, Tryd.ntmps6
  go_wp2_with fail
  refine (HPs.out _).mono ?_
  rintro e w1 ⟨rfl, hb⟩
  have hk : Blk (w1.alloc (.cells #[.int .i64 a.maj, .int .i64 a.min, .int .i64 a.pat, .string (S a.pre), .string (S a.met)] 26)) w1.heap.size 26 #[.int .i64 a.maj, .int .i64 a.min, .int .i64 a.pat, .string (S a.pre), .string (S a.met)] := Blk.new _ _ _
  have hL : Below w.heap.size w (w1.alloc (.cells #[.int .i64 a.maj, .int .i64 a.min, .int .i64 a.pat, .string (S a.pre), .string (S a.met)] 26)) := hb.alloc hb.size _
  go_wp2_with fail
  generalize w1.alloc (.cells #[.int .i64 a.maj, .int .i64 a.min, .int .i64 a.pat, .string (S a.pre), .string (S a.met)] 26) = w2 at *
  generalize w1.heap.size = g1 at *
  have HA2 := hide hk
  have HL2 := hide hL
  clear hk hL hb
  refine (HPr.out _).mono ?_
  rintro e w3 ⟨rfl, hb⟩
  have hB : Blk (w3.alloc (.cells #[.int .i64 b.maj, .int .i64 b.min, .int .i64 b.pat, .string (S b.pre), .string (S b.met)] 26)) w3.heap.size 26 #[.int .i64 b.maj, .int .i64 b.min, .int .i64 b.pat, .string (S b.pre), .string (S b.met)] := Blk.new _ _ _
  have hA : Blk (w3.alloc (.cells #[.int .i64 b.maj, .int .i64 b.min, .int .i64 b.pat, .string (S b.pre), .string (S b.met)] 26)) g1 26 #[.int .i64 a.maj, .int .i64 a.min, .int .i64 a.pat, .string (S a.pre), .string (S a.met)] := (HA2.out.below hb HA2.out.lt).alloc _
  have hL : Below w.heap.size w (w3.alloc (.cells #[.int .i64 b.maj, .int .i64 b.min, .int .i64 b.pat, .string (S b.pre), .string (S b.met)] 26)) := (HL2.out.trans (hb.mono HL2.out.size)).alloc (HL2.out.trans (hb.mono HL2.out.size)).size _
  obtain ⟨a0, a1, a2, a3, a4⟩ := cells5 hA
  obtain ⟨b0, b1, b2, b3, b4⟩ := cells5 hB
  go_wp2_with fail
  generalize w3.alloc (.cells #[.int .i64 b.maj, .int .i64 b.min, .int .i64 b.pat, .string (S b.pre), .string (S b.met)] 26) = w4 at *
  generalize w3.heap.size = g2 at *
  have HA4 := hide hA
  have HB4 := hide hB
  have HL4 := hide hL
  clear hA hB hL hb
  refine (HPR1.out _).mono ?_
  rintro e w5 ⟨rfl, hb⟩
  have HA5 : Hid (Blk w5 g1 26 #[.int .i64 a.maj, .int .i64 a.min, .int .i64 a.pat, .string (S a.pre), .string (S a.met)]) := HA4.out.below hb HA4.out.lt
  have HB5 : Hid (Blk w5 g2 26 #[.int .i64 b.maj, .int .i64 b.min, .int .i64 b.pat, .string (S b.pre), .string (S b.met)]) := HB4.out.below hb HB4.out.lt
  have HL5 := hide (HL4.out.trans (hb.mono HL4.out.size))
  clear hb a0 a1 a2 a3 a4 b0 b1 b2 b3 b4
  obtain ⟨a0, a1, a2, a3, a4⟩ := cells5 HA5.out
  obtain ⟨b0, b1, b2, b3, b4⟩ := cells5 HB5.out
  go_wp2_with fail
  refine (HPR2.out _).mono ?_
  rintro e w6 ⟨rfl, hb⟩
  have HA6 : Hid (Blk w6 g1 26 #[.int .i64 a.maj, .int .i64 a.min, .int .i64 a.pat, .string (S a.pre), .string (S a.met)]) := HA5.out.below hb HA5.out.lt
  have HB6 : Hid (Blk w6 g2 26 #[.int .i64 b.maj, .int .i64 b.min, .int .i64 b.pat, .string (S b.pre), .string (S b.met)]) := HB5.out.below hb HB5.out.lt
  have HL6 := hide (HL5.out.trans (hb.mono HL5.out.size))
  clear hb a0 a1 a2 a3 a4 b0 b1 b2 b3 b4
  obtain ⟨a0, a1, a2, a3, a4⟩ := cells5 HA6.out
  obtain ⟨b0, b1, b2, b3, b4⟩ := cells5 HB6.out
  go_wp2
  go_region_held3 (fun w' => (w'.cell? ⟨g1, 0, none⟩ = some (.int .i64 a.maj) ∧ w'.cell? ⟨g1, 1, none⟩ = some (.int .i64 a.min) ∧ w'.cell? ⟨g1, 2, none⟩ = some (.int .i64 a.pat) ∧ w'.cell? ⟨g1, 3, none⟩ = some (.string (S a.pre)) ∧ w'.cell? ⟨g1, 4, none⟩ = some (.string (S a.met))) ∧ (w'.cell? ⟨g2, 0, none⟩ = some (.int .i64 b.maj) ∧ w'.cell? ⟨g2, 1, none⟩ = some (.int .i64 b.min) ∧ w'.cell? ⟨g2, 2, none⟩ = some (.int .i64 b.pat) ∧ w'.cell? ⟨g2, 3, none⟩ = some (.string (S b.pre)) ∧ w'.cell? ⟨g2, 4, none⟩ = some (.string (S b.met)))) (first | with_reducible exact ⟨cells5 HAz.out, cells5 HBz.out⟩ | with_reducible exact ⟨cells5 HAy.out, cells5 HBy.out⟩ | with_reducible exact ⟨cells5 HAx.out, cells5 HBx.out⟩ | go_keep)
    (first
      | (go_at_call 15
         with_reducible refine (HCX.out _ (HVA.out.below (below_drew HL6.out))).mono ?_
         rintro e wx ⟨rfl, hbx⟩
         have HAx : Hid (Blk wx g1 26 #[.int .i64 a.maj, .int .i64 a.min, .int .i64 a.pat, .string (S a.pre), .string (S a.met)]) := (Blk.drew HA6.out).below hbx (Blk.drew HA6.out).lt
         have HBx : Hid (Blk wx g2 26 #[.int .i64 b.maj, .int .i64 b.min, .int .i64 b.pat, .string (S b.pre), .string (S b.met)]) := (Blk.drew HB6.out).below hbx (Blk.drew HB6.out).lt
         have HLx : Hid (Below w.heap.size w wx) := (below_drew HL6.out).trans (hbx.mono (below_drew HL6.out).size)
         clear hbx)
      | (go_at_call 11
         with_reducible refine (HCM.out _).mono ?_
         rintro e wy ⟨rfl, hby⟩
         have HAy : Hid (Blk wy g1 26 #[.int .i64 a.maj, .int .i64 a.min, .int .i64 a.pat, .string (S a.pre), .string (S a.met)]) := HAx.out.below hby HAx.out.lt
         have HBy : Hid (Blk wy g2 26 #[.int .i64 b.maj, .int .i64 b.min, .int .i64 b.pat, .string (S b.pre), .string (S b.met)]) := HBx.out.below hby HBx.out.lt
         have HLy : Hid (Below w.heap.size w wy) := HLx.out.trans (hby.mono HLx.out.size)
         clear hby)
      | (go_at_call 15
         with_reducible refine (HCT.out _ (HVA.out.below HLy.out)).mono ?_
         rintro e wz ⟨rfl, hbz⟩
         have HAz : Hid (Blk wz g1 26 #[.int .i64 a.maj, .int .i64 a.min, .int .i64 a.pat, .string (S a.pre), .string (S a.met)]) := HAy.out.below hbz HAy.out.lt
         have HBz : Hid (Blk wz g2 26 #[.int .i64 b.maj, .int .i64 b.min, .int .i64 b.pat, .string (S b.pre), .string (S b.met)]) := HBy.out.below hbz HBy.out.lt
         have HLz : Hid (Below w.heap.size w wz) := HLy.out.trans (hbz.mono HLy.out.size)
         clear hbz)
      | fail)
  all_goals
    go_wp2_with fail
    go_ret
    exact ⟨rfl, HLz.out⟩

theorem fnTexts_any (s r : Bs) (w : World) (hv : VarsOk w) : Calls Tryd.prog 6 #[.string (S s), .string (S r)] w fun e w' => e = .returned (.bool true) ∧ Below w.heap.size w w' := by
  by_cases hs : s.length ≤ 2147483647
  rotate_left
  · exact texts_big1 s r w hv hs
  by_cases hr : r.length ≤ 2147483647
  rotate_left
  · exact texts_big2 s r w hv hs hr
  by_cases k1 : (specP s).2 = 1
  rotate_left
  · exact texts_n1 s r w hv hs hr (specP s).1 (specP r).1 _ _ rfl rfl k1
  by_cases k2 : (specP r).2 = 1
  rotate_left
  · exact texts_n2 s r w hv hs hr (specP s).1 (specP r).1 _ (by rw [← k1]) rfl k2
  have q1 : parseT (trimV s) = some (specP s).1 := by
    rcases parse_agree s with h | ⟨_, h⟩ | ⟨h, _⟩
    · omega
    · exact h
    · omega
  have q2 : parseT (trimV r) = some (specP r).1 := by
    rcases parse_agree r with h | ⟨_, h⟩ | ⟨h, _⟩
    · omega
    · exact h
    · omega
  have t1 := trim_le s
  have t2 := trim_le r
  have u1 := parse_pre q1
  have u2 := parse_pre q2
  have l1 : (specP s).1.pre.length ≤ 4294967295 ∧ (specP s).1.met.length ≤ 4294967295 := by omega
  have l2 : (specP r).1.pre.length ≤ 4294967295 ∧ (specP r).1.met.length ≤ 4294967295 := by omega
  cases p1 : properB (specP s).1
  · exact texts_n3 s r w hv hs hr _ _ l1 l2 (by rw [← k1]) (by rw [← k2]) p1
  cases p2 : properB (specP r).1
  · exact texts_n4 s r w hv hs hr _ _ l1 l2 (by rw [← k1]) (by rw [← k2]) p1 p2
  exact texts_y s r w hv hs hr _ _ l1 l2 (by rw [← k1]) (by rw [← k2]) p1 p2 q1 q2

end Go.Proofs.YtaoeelhgfdknfaaDoor
