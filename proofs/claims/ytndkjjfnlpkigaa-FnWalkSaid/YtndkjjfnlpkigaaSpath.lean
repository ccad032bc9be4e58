/- The walk of the reference's Path: of a good path it says true. -/
import Derived.Test.YtndkjjfnlpkigaaGr
namespace Go.Proofs.Ytndkjjfnlpkigaa
open Go.RowKit

set_option maxHeartbeats 1000000 in
theorem spath_any (K : Nat → Prop) (A : Option Addr) (kk c : Nat) (G : List (List Int)) (a z : Int) (L : Option Addr) (n lc : Nat) (xs : List Int) (w : World) (hg : GrIn w K A kk G)
    (K2 : Nat → Prop) (hr : Reads w K2 1 L n (ints xs)) (hn : n ≤ 140737488355328) (hp : 0 < n) (h0 : xs[0]? = some a) (hl : xs[n - 1]? = some z) (hc : ∀ i x y, xs[i]? = some x → xs[i + 1]? = some y → y ∈ adj G x) :
    Calls Try.prog 11 #[.slice A kk c, .int .i64 a, .int .i64 z, .slice L n lc] w fun e w' => e = .returned (.bool true) ∧ w = w' := by
  have HG := hide hg
  have HR := hide hr
  have H0 := hide h0
  have HL := hide hl
  have HC := hide hc
  have hxl : Hid (xs.length = n) := by have := hr.1; simpa [Hid] using this
  clear hg hr h0 hl hc
  go_enter Try.func11, Try.ntmps11
  go_wp2
  go_loop [9, 10, 13] (fun _ _ i => ∃ j : Nat, j ≤ n ∧ i = .int .i64 j) (fun _ _ i => n - (intOf i).toNat)
  case atStart => exact ⟨0, Nat.zero_le _, rfl⟩
  case round =>
    obtain ⟨j, hj, rfl⟩ := hrel
    by_cases hlt : j < n
    · obtain ⟨ad, u, rfl, _, hx, hcell⟩ := HR.out.at_ hlt
      obtain ⟨rfl, hjl⟩ := ints_at hx
      obtain ⟨y, hy⟩ : ∃ y, y = xs.getD j 0 := ⟨_, rfl⟩
      rw [← hy] at hcell
      have HY := hide hy
      clear hx hy
      rcases Nat.eq_zero_or_pos j with rfl | hjp
      · have e0 : ad.add 0 = ad := rfl
        rw [e0] at hcell
        clear e0
        go_wp2
        go_round
        case rel => exact ⟨1, by omega, by go_num⟩
        case measure => simp [intOf]; omega
      · obtain ⟨ad', u', e', _, hx', hcell'⟩ := HR.out.at_ (show j - 1 < n by omega)
        obtain rfl : ad = ad' := by injection e'
        obtain ⟨rfl, hjl'⟩ := ints_at hx'
        obtain ⟨x, hx⟩ : ∃ x, x = xs.getD (j - 1) 0 := ⟨_, rfl⟩
        rw [← hx] at hcell'
        have HX := hide hx
        have hin : decide (y ∈ adj G x) = true := by
          rw [decide_eq_true_eq]
          refine HC.out (j - 1) x y ?_ ?_
          · rw [HX.out, List.getD_eq_getElem?_getD, List.getElem?_eq_getElem hjl']; rfl
          · rw [show j - 1 + 1 = j by omega, HY.out, List.getD_eq_getElem?_getD, List.getElem?_eq_getElem hjl]; rfl
        clear hx hx' e'
        go_wp2_with fail
        refine (edges_any K A kk c G x _ HG.out).mono ?_
        rintro e w1 ⟨EA, ec, rfl, hym, hre, rfl⟩
        have HRE := hide hre
        unfold maxLen at hym
        clear hre
        generalize adj G x = ys at *
        go_wp2_with fail
        refine (has_any _ _ ys.length _ ys y _ HRE.out ?_).mono ?_
        · omega
        rw [hin]
        rintro e w1 ⟨rfl, rfl⟩
        go_wp2
        go_round
        case rel => exact ⟨j + 1, by omega, by go_num⟩
        case measure => simp [intOf]; omega
    · obtain ⟨ad, u, rfl, _, hx, hcell⟩ := HR.out.at_ hp
      obtain ⟨rfl, hjl⟩ := ints_at hx
      have e0 : ad.add 0 = ad := rfl
      rw [e0] at hcell
      have ha : xs.getD 0 0 = a := by rw [List.getD_eq_getElem?_getD, H0.out]; rfl
      rw [ha] at hcell
      obtain ⟨ad', u', e', _, hx', hcell'⟩ := HR.out.at_ (show n - 1 < n by omega)
      obtain rfl : ad = ad' := by injection e'
      obtain ⟨rfl, hjl'⟩ := ints_at hx'
      have hz : xs.getD (n - 1) 0 = z := by rw [List.getD_eq_getElem?_getD, HL.out]; rfl
      rw [hz] at hcell'
      clear e0 ha hz hx hx' e' hjl hjl'
      go_wp2
      go_ret
      exact ⟨rfl, rfl⟩
end Go.Proofs.Ytndkjjfnlpkigaa
