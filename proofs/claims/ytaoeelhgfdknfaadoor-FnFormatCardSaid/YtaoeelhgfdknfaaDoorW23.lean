/- The walk of semver's length. Under sizes alone. -/
import Derived.Test.YtaoeelhgfdknfaaDoorW22
import Derived.Test.YtaoeelhgfdknfaaDoorW20
namespace Go.Proofs.YtaoeelhgfdknfaaDoor
open Go.RowKit
open Go.Lib (decDigits nDigits nDigits_small nDigits_big decDigits_length)

attribute [local go_sem] S_size S_toList E_toList S_extract

set_option linter.unusedVariables false in
set_option maxHeartbeats 2000000 in
set_option maxRecDepth 100000 in
theorem length_any (m n p : Nat) (pre met : Bs) (w : World) (hm : m < 10 ^ 18) (hn : n < 10 ^ 18) (hp : p < 10 ^ 18) (h1 : pre.length ≤ 4294967296) (h2 : met.length ≤ 4294967296) :
    Calls Tryd.prog 40 #[.agg #[.int .i64 (m : Int), .int .i64 (n : Int), .int .i64 (p : Int), .string (S pre), .string (S met)]] w fun e w' => (∃ L : Int, 0 ≤ L ∧ L ≤ 10000000000 ∧ e = .returned (.int .i64 L)) ∧ Below w.heap.size w w' := by
  have b1 := nd_bound m hm
  have b2 := nd_bound n hn
  have b3 := nd_bound p hp
  have c1 := fun W => count_any m W hm
  have c2 := fun W => count_any n W hn
  have c3 := fun W => count_any p W hp
  generalize nDigits m = d1 at *
  generalize nDigits n = d2 at *
  generalize nDigits p = d3 at *
  have C1 := hide c1
  have C2 := hide c2
  have C3 := hide c3
  clear c1 c2 c3 hm hn hp
  have w1 : IntKind.i64.wrap ((d1 : Int) + (d2 : Int)) = (d1 : Int) + (d2 : Int) := by rw [IntKind.wrap_i64]; omega
  have w2 : IntKind.i64.wrap ((d1 : Int) + (d2 : Int) + (d3 : Int)) = (d1 : Int) + (d2 : Int) + (d3 : Int) := by rw [IntKind.wrap_i64]; omega
  have w3 : IntKind.i64.wrap ((d1 : Int) + (d2 : Int) + (d3 : Int) + 2) = (d1 : Int) + (d2 : Int) + (d3 : Int) + 2 := by rw [IntKind.wrap_i64]; omega
  have hk0 := Blk.new w 40 #[.int .i64 (m : Int), .int .i64 (n : Int), .int .i64 (p : Int), .string (S pre), .string (S met)]
  have hl0 : Below w.heap.size w (w.alloc (.cells #[.int .i64 (m : Int), .int .i64 (n : Int), .int .i64 (p : Int), .string (S pre), .string (S met)] 40)) := (Below.refl _ _).alloc (Nat.le_refl _) _
  have HL := hide hl0
  obtain ⟨a0, a1, a2, a3, a4⟩ := cells5 hk0
  clear hk0 hl0
  go_enter Tryd.func40, Tryd.ntmps40
  go_wp2_with fail
  generalize w.alloc (.cells #[.int .i64 (m : Int), .int .i64 (n : Int), .int .i64 (p : Int), .string (S pre), .string (S met)] 40) = W0 at *
  go_quiet (first
    | (go_at_call 49; with_reducible exact Calls.quiet_of_same (C1.out _))
    | (go_at_call 49; with_reducible exact Calls.quiet_of_same (C2.out _))
    | (go_at_call 49; with_reducible exact Calls.quiet_of_same (C3.out _)))
  cases hp : pre.isEmpty <;> cases hm : met.isEmpty
  all_goals
    go_wp2
    go_ret
    exact ⟨⟨_, by omega, by omega, rfl⟩, below_drewN HL.out _⟩

end Go.Proofs.YtaoeelhgfdknfaaDoor
