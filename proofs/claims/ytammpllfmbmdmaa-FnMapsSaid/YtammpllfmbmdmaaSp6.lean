/- spec.Maps, any step. Under sizes alone. -/
import Derived.Test.YtammpllfmbmdmaaSpA0
import Derived.Test.YtammpllfmbmdmaaSpA1
import Derived.Test.YtammpllfmbmdmaaSpB0
import Derived.Test.YtammpllfmbmdmaaSpB1
namespace Go.Proofs.Ytammpllfmbmdmaa
open Go.RowKit

theorem spec_any (Kx : Nat → Prop) (A0 A1 A : Option Addr) (c0 c1 c : Nat) (x : Two) (s : StepD) (w : World) (hz0 : x.1.length ≤ 274877906944) (hz1 : x.2.length ≤ 274877906944) (h : TwoIn w Kx A0 A1 c0 c1 x) :
    Calls Try.prog 20 #[.agg #[.slice A0 x.1.length c0, .slice A1 x.2.length c1], .agg (s.cells (.slice A s.list.length c))] w (SpecM Kx (specM x s) w) := by
  obtain ⟨l0, l1⟩ := x
  by_cases hw0 : s.which = 0
  · by_cases g0 : s.what = 0
    · exact spm0_0 Kx A0 A1 A c0 c1 c l0 l1 s w hz0 hz1 h hw0 g0
    by_cases g1 : s.what = 1
    · exact spm0_1 Kx A0 A1 A c0 c1 c l0 l1 s w hz0 hz1 h hw0 g1
    by_cases g2 : s.what = 2
    · exact spm0_2 Kx A0 A1 A c0 c1 c l0 l1 s w hz0 hz1 h hw0 g2
    by_cases g3 : s.what = 3
    · exact spm0_3 Kx A0 A1 A c0 c1 c l0 l1 s w hz0 hz1 h hw0 g3
    by_cases g4 : s.what = 4
    · exact spm0_4 Kx A0 A1 A c0 c1 c l0 l1 s w hz0 hz1 h hw0 g4
    by_cases g5 : s.what = 5
    · exact spm0_5 Kx A0 A1 A c0 c1 c l0 l1 s w hz0 hz1 h hw0 g5
    by_cases g6 : s.what = 6
    · exact spm0_6 Kx A0 A1 A c0 c1 c l0 l1 s w hz0 hz1 h hw0 g6
    by_cases g8 : s.what = 8
    · exact spm0_8 Kx A0 A1 A c0 c1 c l0 l1 s w hz0 hz1 h hw0 g8
    exact spm0_d Kx A0 A1 A c0 c1 c l0 l1 s w hz0 hz1 h hw0 (by omega)
  by_cases hw1 : s.which = 1
  · by_cases g0 : s.what = 0
    · exact spm1_0 Kx A0 A1 A c0 c1 c l0 l1 s w hz0 hz1 h hw1 g0
    by_cases g1 : s.what = 1
    · exact spm1_1 Kx A0 A1 A c0 c1 c l0 l1 s w hz0 hz1 h hw1 g1
    by_cases g2 : s.what = 2
    · exact spm1_2 Kx A0 A1 A c0 c1 c l0 l1 s w hz0 hz1 h hw1 g2
    by_cases g3 : s.what = 3
    · exact spm1_3 Kx A0 A1 A c0 c1 c l0 l1 s w hz0 hz1 h hw1 g3
    by_cases g4 : s.what = 4
    · exact spm1_4 Kx A0 A1 A c0 c1 c l0 l1 s w hz0 hz1 h hw1 g4
    by_cases g5 : s.what = 5
    · exact spm1_5 Kx A0 A1 A c0 c1 c l0 l1 s w hz0 hz1 h hw1 g5
    by_cases g6 : s.what = 6
    · exact spm1_6 Kx A0 A1 A c0 c1 c l0 l1 s w hz0 hz1 h hw1 g6
    by_cases g8 : s.what = 8
    · exact spm1_8 Kx A0 A1 A c0 c1 c l0 l1 s w hz0 hz1 h hw1 g8
    exact spm1_d Kx A0 A1 A c0 c1 c l0 l1 s w hz0 hz1 h hw1 (by omega)
  exact spm_out Kx A0 A1 A c0 c1 c l0 l1 s w h (by omega)
end Go.Proofs.Ytammpllfmbmdmaa
