/- semver's Parse: what it answers at every text. No condition but a size, and that the library's two error variables hold errors. -/
import Derived.Test.YtaoeelhgfdknfaaDoorW14a
import Derived.Test.YtaoeelhgfdknfaaDoorW14b
import Derived.Test.YtaoeelhgfdknfaaDoorW14c
import Derived.Test.YtaoeelhgfdknfaaDoorW14d
namespace Go.Proofs.YtaoeelhgfdknfaaDoor
open Go.RowKit

theorem parse_any (s : Bs) (w : World) (hl : s.length ≤ 8589934400) (hv : VarsOk w) : Calls Tryd.prog 27 #[.string (S s)] w (ParseOut (trimV s) w) := by
  cases hf1 : fnd 43 (trimV s)
  · cases hf2 : fnd 45 (bef 43 (trimV s))
    · by_cases hcn : List.count 46 (bef 45 (bef 43 (trimV s))) = 2
      rotate_left
      · exact parse_FF_D s w hl hv hf1 hf2 hcn
      cases ha : pnum (cut46 (bef 45 (bef 43 (trimV s)))).1 with
      | none => exact parse_FF_E s w hl hv hf1 hf2 hcn ha
      | some a =>
        cases hb : pnum (cut46 (cut46 (bef 45 (bef 43 (trimV s)))).2).1 with
        | none => exact parse_FF_F s w hl hv hf1 hf2 hcn a ha hb
        | some b =>
          cases hc : pnum (cut46 (cut46 (bef 45 (bef 43 (trimV s)))).2).2 with
          | none => exact parse_FF_G s w hl hv hf1 hf2 hcn a ha b hb hc
          | some c => exact parse_FF_O s w hl hv hf1 hf2 hcn a ha b hb c hc
    · cases hi2 : identsB (aft 45 (bef 43 (trimV s)))
      · exact parse_FT_B s w hl hv hf1 hf2 hi2
      cases hld : leadingB (aft 45 (bef 43 (trimV s)))
      rotate_left
      · exact parse_FT_C s w hl hv hf1 hf2 hi2 hld
      by_cases hcn : List.count 46 (bef 45 (bef 43 (trimV s))) = 2
      rotate_left
      · exact parse_FT_D s w hl hv hf1 hf2 hi2 hld hcn
      cases ha : pnum (cut46 (bef 45 (bef 43 (trimV s)))).1 with
      | none => exact parse_FT_E s w hl hv hf1 hf2 hi2 hld hcn ha
      | some a =>
        cases hb : pnum (cut46 (cut46 (bef 45 (bef 43 (trimV s)))).2).1 with
        | none => exact parse_FT_F s w hl hv hf1 hf2 hi2 hld hcn a ha hb
        | some b =>
          cases hc : pnum (cut46 (cut46 (bef 45 (bef 43 (trimV s)))).2).2 with
          | none => exact parse_FT_G s w hl hv hf1 hf2 hi2 hld hcn a ha b hb hc
          | some c => exact parse_FT_O s w hl hv hf1 hf2 hi2 hld hcn a ha b hb c hc
  · cases hi1 : identsB (aft 43 (trimV s))
    · exact parse_TF_A s w hl hv hf1 hi1
    cases hf2 : fnd 45 (bef 43 (trimV s))
    · by_cases hcn : List.count 46 (bef 45 (bef 43 (trimV s))) = 2
      rotate_left
      · exact parse_TF_D s w hl hv hf1 hi1 hf2 hcn
      cases ha : pnum (cut46 (bef 45 (bef 43 (trimV s)))).1 with
      | none => exact parse_TF_E s w hl hv hf1 hi1 hf2 hcn ha
      | some a =>
        cases hb : pnum (cut46 (cut46 (bef 45 (bef 43 (trimV s)))).2).1 with
        | none => exact parse_TF_F s w hl hv hf1 hi1 hf2 hcn a ha hb
        | some b =>
          cases hc : pnum (cut46 (cut46 (bef 45 (bef 43 (trimV s)))).2).2 with
          | none => exact parse_TF_G s w hl hv hf1 hi1 hf2 hcn a ha b hb hc
          | some c => exact parse_TF_O s w hl hv hf1 hi1 hf2 hcn a ha b hb c hc
    · cases hi2 : identsB (aft 45 (bef 43 (trimV s)))
      · exact parse_TT_B s w hl hv hf1 hi1 hf2 hi2
      cases hld : leadingB (aft 45 (bef 43 (trimV s)))
      rotate_left
      · exact parse_TT_C s w hl hv hf1 hi1 hf2 hi2 hld
      by_cases hcn : List.count 46 (bef 45 (bef 43 (trimV s))) = 2
      rotate_left
      · exact parse_TT_D s w hl hv hf1 hi1 hf2 hi2 hld hcn
      cases ha : pnum (cut46 (bef 45 (bef 43 (trimV s)))).1 with
      | none => exact parse_TT_E s w hl hv hf1 hi1 hf2 hi2 hld hcn ha
      | some a =>
        cases hb : pnum (cut46 (cut46 (bef 45 (bef 43 (trimV s)))).2).1 with
        | none => exact parse_TT_F s w hl hv hf1 hi1 hf2 hi2 hld hcn a ha hb
        | some b =>
          cases hc : pnum (cut46 (cut46 (bef 45 (bef 43 (trimV s)))).2).2 with
          | none => exact parse_TT_G s w hl hv hf1 hi1 hf2 hi2 hld hcn a ha b hb hc
          | some c => exact parse_TT_O s w hl hv hf1 hi1 hf2 hi2 hld hcn a ha b hb c hc

end Go.Proofs.YtaoeelhgfdknfaaDoor
