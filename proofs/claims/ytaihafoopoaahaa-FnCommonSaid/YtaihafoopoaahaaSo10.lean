/- The walk of sort.Sort: a sorted permutation. Under sizes alone. -/
import Derived.Test.YtaihafoopoaahaaSo9
namespace Go.Proofs.Ytaihafoopoaahaa
open Go.RowKit

theorem finds_Len' (sb : Nat) (w : World) : (method (Try.prog.types.size + 100) 39 (rcv sb) "Len").run Try.prog w = .ok (64, rcv sb) w := finds_Len sb w
theorem enters_Len : ∀ args w, (callFunc 64 args).run Try.prog w = .ok (.enter 64 args) w := enters_of Try.func64 (by kernel_rfl) rfl

section
variable {sb blk B sz : Nat} {lt : Nat → Nat → Bool} {R : World → Array Nat → Prop}
set_option linter.unusedSimpArgs false in
set_option linter.unusedVariables false in
set_option maxHeartbeats 4000000 in
set_option maxRecDepth 100000 in
theorem sort_any (h : SortEnv sb blk B sz lt R) (hS : Sort.SWO lt) (W : World) (d : Array Nat) (hR : R W d)
    (hLen : Calls Try.prog 64 #[rcv sb] W fun e w' => e = .returned (.int .i64 sz) ∧ Below W.heap.size W w') :
    Calls Try.prog 20 #[.iface 39 (rcv sb)] W fun e w' => e = .returned (.tuple #[]) ∧ ∃ d', At blk R W w' d' ∧ Sort.PermIn 0 sz d d' ∧ Sort.SortedIn lt 0 sz d' := by
  have mN := finds_Len sb
  have eN := enters_Len
  have hsm := h.small
  have HE := hide h
  have HS := hide hS
  have HA : Hid (At blk R W W d) := (⟨Chg.refl _ _, hR⟩ : At blk R W W d)
  have HL := hide hLen
  have hlen : Lib.bitLen sz ≤ 64 := by
    rw [bitLen_eq sz (by omega), Sort.bitsLen_le_iff]
    omega
  obtain ⟨L, hL⟩ : ∃ L, L = Lib.bitLen sz := ⟨_, rfl⟩
  have hBL : ∀ w, Calls Try.prog 28 #[.int .u64 (sz : Int)] w fun e w' => e = .returned (.int .i64 (L : Int)) ∧ w' = w := by
    intro w
    have := Try.bits_Len (sz : Int) w (by omega) (by omega)
    rw [hL]
    simpa using this
  rw [← hL] at hlen
  clear h hS hR hLen hL
  go_enter Try.func20, Try.ntmps20
  go_wp2_with fail
  refine HL.out.mono ?_
  rintro _ w1 ⟨rfl, hb1⟩
  have HA1 : Hid (At blk R W w1 d) := HA.out.below HE.out hb1
  clear HL hb1 HA
  by_cases h1 : sz ≤ 1
  · go_wp2
    (try simp only [Exit.inBlock, Exit.then]); refine bodyPost_ret (results_none rfl _ _ _) rfl ?_
    exact ⟨rfl, d, HA1.out, Sort.permIn_refl _ _ _, fun i j _ h2 h3 => by omega⟩
  · have HC := hide (pdqsort_any HE.out HS.out sz w1 d 0 sz L (by omega) HA1.out.2 (by omega) (Nat.le_refl _) (by omega) (Or.inl rfl))
    go_wp2_with (first | (go_at_call 28; refine (hBL _).mono ?_; rintro e w' ⟨rfl, rfl⟩))
    refine HC.out.mono ?_
    rintro _ w2 ⟨rfl, d2, h2, hp2, hs2⟩
    have HF : Hid (∃ d', At blk R W w2 d' ∧ Sort.PermIn 0 sz d d' ∧ Sort.SortedIn lt 0 sz d') := (⟨d2, HA1.out.then_ h2, hp2, hs2⟩ : ∃ d', At blk R W w2 d' ∧ Sort.PermIn 0 sz d d' ∧ Sort.SortedIn lt 0 sz d')
    clear h2 hp2 hs2 HC
    go_wp2
    go_end0
    exact ⟨rfl, HF.out⟩
end
end Go.Proofs.Ytaihafoopoaahaa
