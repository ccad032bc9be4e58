/- spec.Parse: what it answers at every text. No condition but a size. -/
import Derived.Test.YtaoeelhgfdknfaaDoorW18a
import Derived.Test.YtaoeelhgfdknfaaDoorW18b
import Derived.Test.YtaoeelhgfdknfaaDoorW18c
import Derived.Test.YtaoeelhgfdknfaaDoorW18d
import Derived.Test.YtaoeelhgfdknfaaDoorW18e
namespace Go.Proofs.YtaoeelhgfdknfaaDoor
open Go.RowKit

theorem cut_no {c : UInt8} {l : Bs} (h : ¬ fst c l < l.length) : fst c l = l.length ∧ bef c l = l ∧ aft c l = [] := by
  have hle := fst_le c l
  have hk : fst c l = l.length := by omega
  exact ⟨hk, by unfold bef; rw [hk, List.take_length], by unfold aft; rw [hk]; exact List.drop_eq_nil_of_le (by omega)⟩
theorem len3 {L : List Bs} (h : L.length = 3) : ∃ a b c, L = [a, b, c] := by
  match L, h with
  | [a, b, c], _ => exact ⟨a, b, c, rfl⟩
theorem lead_e : leadingB [] = false := by decide

theorem spec_FF (s : Bs) (w : World) (hl : s.length ≤ 8589934400) (c : UInt8) (hc : s[0]? = some c) (h118 : ¬ c = 118) (h86 : ¬ c = 86) (hn1 : ¬ fst 43 s < s.length)  (hn2 : ¬ fst 45 s < s.length) : Calls Tryd.prog 12 #[.string (S s)] w (SpecOut s w) := by
  have e1 := cut_no hn1
  have e2 := cut_no hn2
  cases had : (dots s).all digitsB
  · exact spec_FF_D s w hl c hc h118 h86 e1.1 e1.2.1 e1.2.2 e2.1 e2.2.1 e2.2.2 had
  by_cases hne : (dots s).length = 3
  rotate_left
  · exact spec_FF_E s w hl c hc h118 h86 e1.1 e1.2.1 e1.2.2 e2.1 e2.2.1 e2.2.2 had hne
  obtain ⟨x0, x1, x2, h3⟩ := len3 hne
  cases hls : leadingB s
  rotate_left
  · exact spec_FF_1 s w hl c hc h118 h86 e1.1 e1.2.1 e1.2.2 e2.1 e2.2.1 e2.2.2 had x0 x1 x2 h3 hls
  by_cases hg0 : 18 < x0.length
  · exact spec_FF_3 s w hl c hc h118 h86 e1.1 e1.2.1 e1.2.2 e2.1 e2.2.1 e2.2.2 had x0 x1 x2 h3 hls lead_e hg0
  by_cases hg1 : 18 < x1.length
  · exact spec_FF_4 s w hl c hc h118 h86 e1.1 e1.2.1 e1.2.2 e2.1 e2.2.1 e2.2.2 had x0 x1 x2 h3 hls lead_e (by omega) hg1
  by_cases hg2 : 18 < x2.length
  · exact spec_FF_5 s w hl c hc h118 h86 e1.1 e1.2.1 e1.2.2 e2.1 e2.2.1 e2.2.2 had x0 x1 x2 h3 hls lead_e (by omega) (by omega) hg2
  exact spec_FF_O s w hl c hc h118 h86 e1.1 e1.2.1 e1.2.2 e2.1 e2.2.1 e2.2.2 had x0 x1 x2 h3 hls lead_e (by omega) (by omega) (by omega)
theorem spec_FT (s : Bs) (w : World) (hl : s.length ≤ 8589934400) (c : UInt8) (hc : s[0]? = some c) (h118 : ¬ c = 118) (h86 : ¬ c = 86) (hn1 : ¬ fst 43 s < s.length)  (hlt2 : fst 45 s < s.length) : Calls Tryd.prog 12 #[.string (S s)] w (SpecOut s w) := by
  have e1 := cut_no hn1
  cases hi2 : identsB (aft 45 s)
  · exact spec_FT_B s w hl c hc h118 h86 e1.1 e1.2.1 e1.2.2 (bef 45 s) (aft 45 s) (fst 45 s) rfl hlt2 rfl rfl hi2
  cases had : (dots (bef 45 s)).all digitsB
  · exact spec_FT_D s w hl c hc h118 h86 e1.1 e1.2.1 e1.2.2 (bef 45 s) (aft 45 s) (fst 45 s) rfl hlt2 rfl rfl hi2 had
  by_cases hne : (dots (bef 45 s)).length = 3
  rotate_left
  · exact spec_FT_E s w hl c hc h118 h86 e1.1 e1.2.1 e1.2.2 (bef 45 s) (aft 45 s) (fst 45 s) rfl hlt2 rfl rfl hi2 had hne
  obtain ⟨x0, x1, x2, h3⟩ := len3 hne
  cases hls : leadingB (bef 45 s)
  rotate_left
  · exact spec_FT_1 s w hl c hc h118 h86 e1.1 e1.2.1 e1.2.2 (bef 45 s) (aft 45 s) (fst 45 s) rfl hlt2 rfl rfl hi2 had x0 x1 x2 h3 hls
  cases hlq : leadingB (aft 45 s)
  rotate_left
  · exact spec_FT_2 s w hl c hc h118 h86 e1.1 e1.2.1 e1.2.2 (bef 45 s) (aft 45 s) (fst 45 s) rfl hlt2 rfl rfl hi2 had x0 x1 x2 h3 hls hlq
  by_cases hg0 : 18 < x0.length
  · exact spec_FT_3 s w hl c hc h118 h86 e1.1 e1.2.1 e1.2.2 (bef 45 s) (aft 45 s) (fst 45 s) rfl hlt2 rfl rfl hi2 had x0 x1 x2 h3 hls hlq hg0
  by_cases hg1 : 18 < x1.length
  · exact spec_FT_4 s w hl c hc h118 h86 e1.1 e1.2.1 e1.2.2 (bef 45 s) (aft 45 s) (fst 45 s) rfl hlt2 rfl rfl hi2 had x0 x1 x2 h3 hls hlq (by omega) hg1
  by_cases hg2 : 18 < x2.length
  · exact spec_FT_5 s w hl c hc h118 h86 e1.1 e1.2.1 e1.2.2 (bef 45 s) (aft 45 s) (fst 45 s) rfl hlt2 rfl rfl hi2 had x0 x1 x2 h3 hls hlq (by omega) (by omega) hg2
  exact spec_FT_O s w hl c hc h118 h86 e1.1 e1.2.1 e1.2.2 (bef 45 s) (aft 45 s) (fst 45 s) rfl hlt2 rfl rfl hi2 had x0 x1 x2 h3 hls hlq (by omega) (by omega) (by omega)
theorem spec_TF (s : Bs) (w : World) (hl : s.length ≤ 8589934400) (c : UInt8) (hc : s[0]? = some c) (h118 : ¬ c = 118) (h86 : ¬ c = 86) (hlt1 : fst 43 s < s.length) (hi1 : identsB (aft 43 s) = true) (hn2 : ¬ fst 45 (bef 43 s) < (bef 43 s).length) : Calls Tryd.prog 12 #[.string (S s)] w (SpecOut s w) := by
  have e2 := cut_no hn2
  cases had : (dots (bef 43 s)).all digitsB
  · exact spec_TF_D s w hl c hc h118 h86 (bef 43 s) (aft 43 s) (fst 43 s) rfl hlt1 rfl rfl hi1 e2.1 e2.2.1 e2.2.2 had
  by_cases hne : (dots (bef 43 s)).length = 3
  rotate_left
  · exact spec_TF_E s w hl c hc h118 h86 (bef 43 s) (aft 43 s) (fst 43 s) rfl hlt1 rfl rfl hi1 e2.1 e2.2.1 e2.2.2 had hne
  obtain ⟨x0, x1, x2, h3⟩ := len3 hne
  cases hls : leadingB (bef 43 s)
  rotate_left
  · exact spec_TF_1 s w hl c hc h118 h86 (bef 43 s) (aft 43 s) (fst 43 s) rfl hlt1 rfl rfl hi1 e2.1 e2.2.1 e2.2.2 had x0 x1 x2 h3 hls
  by_cases hg0 : 18 < x0.length
  · exact spec_TF_3 s w hl c hc h118 h86 (bef 43 s) (aft 43 s) (fst 43 s) rfl hlt1 rfl rfl hi1 e2.1 e2.2.1 e2.2.2 had x0 x1 x2 h3 hls lead_e hg0
  by_cases hg1 : 18 < x1.length
  · exact spec_TF_4 s w hl c hc h118 h86 (bef 43 s) (aft 43 s) (fst 43 s) rfl hlt1 rfl rfl hi1 e2.1 e2.2.1 e2.2.2 had x0 x1 x2 h3 hls lead_e (by omega) hg1
  by_cases hg2 : 18 < x2.length
  · exact spec_TF_5 s w hl c hc h118 h86 (bef 43 s) (aft 43 s) (fst 43 s) rfl hlt1 rfl rfl hi1 e2.1 e2.2.1 e2.2.2 had x0 x1 x2 h3 hls lead_e (by omega) (by omega) hg2
  exact spec_TF_O s w hl c hc h118 h86 (bef 43 s) (aft 43 s) (fst 43 s) rfl hlt1 rfl rfl hi1 e2.1 e2.2.1 e2.2.2 had x0 x1 x2 h3 hls lead_e (by omega) (by omega) (by omega)
theorem spec_TT (s : Bs) (w : World) (hl : s.length ≤ 8589934400) (c : UInt8) (hc : s[0]? = some c) (h118 : ¬ c = 118) (h86 : ¬ c = 86) (hlt1 : fst 43 s < s.length) (hi1 : identsB (aft 43 s) = true) (hlt2 : fst 45 (bef 43 s) < (bef 43 s).length) : Calls Tryd.prog 12 #[.string (S s)] w (SpecOut s w) := by
  cases hi2 : identsB (aft 45 (bef 43 s))
  · exact spec_TT_B s w hl c hc h118 h86 (bef 43 s) (aft 43 s) (fst 43 s) rfl hlt1 rfl rfl hi1 (bef 45 (bef 43 s)) (aft 45 (bef 43 s)) (fst 45 (bef 43 s)) rfl hlt2 rfl rfl hi2
  cases had : (dots (bef 45 (bef 43 s))).all digitsB
  · exact spec_TT_D s w hl c hc h118 h86 (bef 43 s) (aft 43 s) (fst 43 s) rfl hlt1 rfl rfl hi1 (bef 45 (bef 43 s)) (aft 45 (bef 43 s)) (fst 45 (bef 43 s)) rfl hlt2 rfl rfl hi2 had
  by_cases hne : (dots (bef 45 (bef 43 s))).length = 3
  rotate_left
  · exact spec_TT_E s w hl c hc h118 h86 (bef 43 s) (aft 43 s) (fst 43 s) rfl hlt1 rfl rfl hi1 (bef 45 (bef 43 s)) (aft 45 (bef 43 s)) (fst 45 (bef 43 s)) rfl hlt2 rfl rfl hi2 had hne
  obtain ⟨x0, x1, x2, h3⟩ := len3 hne
  cases hls : leadingB (bef 45 (bef 43 s))
  rotate_left
  · exact spec_TT_1 s w hl c hc h118 h86 (bef 43 s) (aft 43 s) (fst 43 s) rfl hlt1 rfl rfl hi1 (bef 45 (bef 43 s)) (aft 45 (bef 43 s)) (fst 45 (bef 43 s)) rfl hlt2 rfl rfl hi2 had x0 x1 x2 h3 hls
  cases hlq : leadingB (aft 45 (bef 43 s))
  rotate_left
  · exact spec_TT_2 s w hl c hc h118 h86 (bef 43 s) (aft 43 s) (fst 43 s) rfl hlt1 rfl rfl hi1 (bef 45 (bef 43 s)) (aft 45 (bef 43 s)) (fst 45 (bef 43 s)) rfl hlt2 rfl rfl hi2 had x0 x1 x2 h3 hls hlq
  by_cases hg0 : 18 < x0.length
  · exact spec_TT_3 s w hl c hc h118 h86 (bef 43 s) (aft 43 s) (fst 43 s) rfl hlt1 rfl rfl hi1 (bef 45 (bef 43 s)) (aft 45 (bef 43 s)) (fst 45 (bef 43 s)) rfl hlt2 rfl rfl hi2 had x0 x1 x2 h3 hls hlq hg0
  by_cases hg1 : 18 < x1.length
  · exact spec_TT_4 s w hl c hc h118 h86 (bef 43 s) (aft 43 s) (fst 43 s) rfl hlt1 rfl rfl hi1 (bef 45 (bef 43 s)) (aft 45 (bef 43 s)) (fst 45 (bef 43 s)) rfl hlt2 rfl rfl hi2 had x0 x1 x2 h3 hls hlq (by omega) hg1
  by_cases hg2 : 18 < x2.length
  · exact spec_TT_5 s w hl c hc h118 h86 (bef 43 s) (aft 43 s) (fst 43 s) rfl hlt1 rfl rfl hi1 (bef 45 (bef 43 s)) (aft 45 (bef 43 s)) (fst 45 (bef 43 s)) rfl hlt2 rfl rfl hi2 had x0 x1 x2 h3 hls hlq (by omega) (by omega) hg2
  exact spec_TT_O s w hl c hc h118 h86 (bef 43 s) (aft 43 s) (fst 43 s) rfl hlt1 rfl rfl hi1 (bef 45 (bef 43 s)) (aft 45 (bef 43 s)) (fst 45 (bef 43 s)) rfl hlt2 rfl rfl hi2 had x0 x1 x2 h3 hls hlq (by omega) (by omega) (by omega)
theorem spec_any (s : Bs) (w : World) (hl : s.length ≤ 8589934400) : Calls Tryd.prog 12 #[.string (S s)] w (SpecOut s w) := by
  cases he : s.isEmpty
  rotate_left
  · have e0 : s = [] := by cases s with | nil => rfl | cons _ _ => cases he
    subst e0
    exact spec_FF_De [] w hl he rfl rfl rfl rfl rfl rfl (by decide)
  obtain ⟨c, hc⟩ : ∃ c, s[0]? = some c := by cases s with | nil => cases he | cons c _ => exact ⟨c, rfl⟩
  by_cases h118 : c = 118
  · subst h118; exact spec_V118 s w hc
  by_cases h86 : c = 86
  · subst h86; exact spec_V86 s w hc
  by_cases h1 : fst 43 s < s.length
  · cases hi1 : identsB (aft 43 s)
    · exact spec_TF_A s w hl c hc h118 h86 (bef 43 s) (aft 43 s) (fst 43 s) rfl h1 rfl rfl hi1
    by_cases h2 : fst 45 (bef 43 s) < (bef 43 s).length
    · exact spec_TT s w hl c hc h118 h86 h1 hi1 h2
    · exact spec_TF s w hl c hc h118 h86 h1 hi1 h2
  · by_cases h2 : fst 45 s < s.length
    · exact spec_FT s w hl c hc h118 h86 h1 h2
    · exact spec_FF s w hl c hc h118 h86 h1 h2

end Go.Proofs.YtaoeelhgfdknfaaDoor
