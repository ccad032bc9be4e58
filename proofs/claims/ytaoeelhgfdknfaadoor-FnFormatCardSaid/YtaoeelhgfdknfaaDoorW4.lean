/- The walks of spec.identifier, Proper, version, zzFits1. No condition but sizes. -/
import Derived.Test.YtaoeelhgfdknfaaDoorW3
namespace Go.Proofs.YtaoeelhgfdknfaaDoor
open Go.RowKit

attribute [local go_sem] S_size S_toList E_toList S_extract

theorem bl_total : ∀ a b : Bs, (!(Op.bytesLess a b || a == b)) = Op.bytesLess b a
  | [], [] => by decide
  | [], c :: b => by simp [Op.bytesLess]
  | c :: a, [] => by simp [Op.bytesLess]
  | c :: a, d :: b => by
    have ih := bl_total a b
    unfold Op.bytesLess
    by_cases h1 : c < d
    · have h2 : ¬ d < c := by
        rw [UInt8.lt_iff_toNat_lt] at h1 ⊢; omega
      have h3 : (d == c) = false := by
        rw [beq_eq_false_iff_ne]; rintro rfl; exact h2 h1
      simp [h1, h2, h3]
    · by_cases h2 : d < c
      · have h3 : (c == d) = false := by
          rw [beq_eq_false_iff_ne]; rintro rfl; exact h1 h2
        have h4 : (c :: a == d :: b) = false := by
          rw [List.cons_beq_cons, h3]; rfl
        simp [h1, h2, h3, h4]
      · have h3 : c = d := by
          apply UInt8.toNat_inj.1
          rw [UInt8.lt_iff_toNat_lt] at h1 h2; omega
        subst h3
        rw [List.cons_beq_cons]
        simp only [h1, decide_false, BEq.rfl, Bool.true_and, Bool.false_or]
        exact ih

theorem digits_all {l : Bs} (h : digitsB l = true) : l.all isDig = true := by
  unfold digitsB at h
  rw [Bool.and_eq_true] at h
  exact h.1

set_option maxHeartbeats 1000000 in
set_option maxRecDepth 100000 in
theorem identifier_any (a b : Bs) (w : World) (ha : a.length ≤ 8589934592) (hb : b.length ≤ 8589934592) (h18 : digitsB a = true → digitsB b = true → a.length ≤ 18 ∧ b.length ≤ 18) :
    Calls Tryd.prog 23 #[.string (S a), .string (S b)] w fun e w' => e = .returned (.int .i64 (identC a b)) ∧ w' = w := by
  have hA : ∀ W, Calls Tryd.prog 25 #[.string (S a)] W fun e w' => e = .returned (.bool (digitsB a)) ∧ w' = W := fun W => digits_any a W ha
  have hB : ∀ W, Calls Tryd.prog 25 #[.string (S b)] W fun e w' => e = .returned (.bool (digitsB b)) ∧ w' = W := fun W => digits_any b W hb
  obtain ⟨r, hr⟩ : ∃ r, identC a b = r := ⟨_, rfl⟩
  rw [hr]
  unfold identC at hr
  have HA := hide hA
  have HB := hide hB
  clear hA hB
  cases hda : digitsB a <;> cases hdb : digitsB b
  · rw [hda, hdb] at hr
    rw [hda] at HA
    rw [hdb] at HB
    have htot := bl_total a b
    cases hl : Op.bytesLess a b
    · cases hl2 : Op.bytesLess b a
      · have : r = 0 := by rw [hl, hl2] at hr; simpa using hr.symm
        subst this
        have hg : (a == b) = true := by rw [hl, hl2] at htot; simpa using htot
        clear htot hr hda hdb h18
        go_enter Tryd.func23, Tryd.ntmps23
        go_wp2_with fail
        refine (HA.out _).mono ?_
        rintro e w9 ⟨rfl, rfl⟩
        go_wp2_with fail
        refine (HA.out _).mono ?_
        rintro e w9 ⟨rfl, rfl⟩
        go_wp2_with fail
        refine (HB.out _).mono ?_
        rintro e w9 ⟨rfl, rfl⟩
        go_wp2_with fail
        go_ret
        exact ⟨rfl, rfl⟩
      · have : r = 1 := by rw [hl, hl2] at hr; simpa using hr.symm
        subst this
        have hg : (a == b) = false := by rw [hl, hl2] at htot; simpa using htot
        clear htot hr hda hdb h18
        go_enter Tryd.func23, Tryd.ntmps23
        go_wp2_with fail
        refine (HA.out _).mono ?_
        rintro e w9 ⟨rfl, rfl⟩
        go_wp2_with fail
        refine (HA.out _).mono ?_
        rintro e w9 ⟨rfl, rfl⟩
        go_wp2_with fail
        refine (HB.out _).mono ?_
        rintro e w9 ⟨rfl, rfl⟩
        go_wp2_with fail
        go_ret
        exact ⟨rfl, rfl⟩
    · have : r = -1 := by rw [hl] at hr; simpa using hr.symm
      subst this
      clear htot hr hda hdb h18
      go_enter Tryd.func23, Tryd.ntmps23
      go_wp2_with fail
      refine (HA.out _).mono ?_
      rintro e w9 ⟨rfl, rfl⟩
      go_wp2_with fail
      refine (HA.out _).mono ?_
      rintro e w9 ⟨rfl, rfl⟩
      go_wp2_with fail
      refine (HB.out _).mono ?_
      rintro e w9 ⟨rfl, rfl⟩
      go_wp2_with fail
      go_ret
      exact ⟨rfl, rfl⟩
  · rw [hda, hdb] at hr
    rw [hda] at HA
    rw [hdb] at HB
    have : r = 1 := by simpa using hr.symm
    subst this
    clear hr hda hdb h18
    go_enter Tryd.func23, Tryd.ntmps23
    go_wp2_with fail
    refine (HA.out _).mono ?_
    rintro e w9 ⟨rfl, rfl⟩
    go_wp2_with fail
    refine (HA.out _).mono ?_
    rintro e w9 ⟨rfl, rfl⟩
    go_wp2_with fail
    refine (HB.out _).mono ?_
    rintro e w9 ⟨rfl, rfl⟩
    go_wp2_with fail
    go_ret
    exact ⟨rfl, rfl⟩
  · rw [hda, hdb] at hr
    rw [hda] at HA
    rw [hdb] at HB
    have : r = -1 := by simpa using hr.symm
    subst this
    clear hr hda hdb h18
    go_enter Tryd.func23, Tryd.ntmps23
    go_wp2_with fail
    refine (HA.out _).mono ?_
    rintro e w9 ⟨rfl, rfl⟩
    go_wp2_with fail
    refine (HB.out _).mono ?_
    rintro e w9 ⟨rfl, rfl⟩
    go_wp2_with fail
    refine (HA.out _).mono ?_
    rintro e w9 ⟨rfl, rfl⟩
    go_wp2_with fail
    go_ret
    exact ⟨rfl, rfl⟩
  · obtain ⟨h1, h2⟩ := h18 hda hdb
    have hNA : ∀ W, Calls Tryd.prog 26 #[.string (S a)] W fun e w' => e = .returned (.int .i64 (numB a)) ∧ w' = W := fun W => number_any a W (digits_all hda) h1
    have hNB : ∀ W, Calls Tryd.prog 26 #[.string (S b)] W fun e w' => e = .returned (.int .i64 (numB b)) ∧ w' = W := fun W => number_any b W (digits_all hdb) h2
    have HNA := hide hNA
    have HNB := hide hNB
    rw [hda, hdb] at hr
    rw [hda] at HA
    rw [hdb] at HB
    have : r = sgn (numB a) (numB b) := by simpa using hr.symm
    subst this
    clear hr hda hdb h18 hNA hNB
    go_enter Tryd.func23, Tryd.ntmps23
    go_wp2_with fail
    refine (HA.out _).mono ?_
    rintro e w9 ⟨rfl, rfl⟩
    go_wp2_with fail
    refine (HB.out _).mono ?_
    rintro e w9 ⟨rfl, rfl⟩
    go_wp2_with fail
    refine (HNA.out _).mono ?_
    rintro e w9 ⟨rfl, rfl⟩
    go_wp2_with fail
    refine (HNB.out _).mono ?_
    rintro e w9 ⟨rfl, rfl⟩
    go_wp2_with fail
    refine (sign_any _ _ _).mono ?_
    rintro e w9 ⟨rfl, rfl⟩
    go_wp2_with fail
    go_ret
    exact ⟨rfl, rfl⟩
end Go.Proofs.YtaoeelhgfdknfaaDoor
