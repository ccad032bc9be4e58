/- The walks of semver's zzDigits and length. No condition but sizes. -/
import Derived.Test.YtaoeelhgfdknfaaDoorP4
import Derived.Test.YtaoeelhgfdknfaaDoorW9
namespace Go.Proofs.YtaoeelhgfdknfaaDoor
open Go.RowKit
open Go.Lib (decDigits nDigits nDigits_small nDigits_big decDigits_length)

attribute [local go_sem] S_size S_toList E_toList S_extract

def nd (m : Nat) : Nat := if m = 0 then 0 else nDigits m
theorem nd_step {m : Nat} (h : 0 < m) : nd m = nd (m / 10) + 1 := by
  unfold nd
  rw [if_neg (by omega)]
  by_cases h1 : m < 10
  · rw [nDigits_small h1, if_pos (by omega)]
  · rw [nDigits_big h1, if_neg (by omega)]

theorem nd_bound (n : Nat) (h : n < 10 ^ 18) : nDigits n ≤ 18 := by
  rw [← decDigits_length]; exact dd_len 17 n h

set_option maxHeartbeats 1000000 in
set_option maxRecDepth 100000 in
theorem count_any (n : Nat) (w : World) (h : n < 10 ^ 18) : Calls Tryd.prog 49 #[.int .i64 (n : Int)] w fun e w' => e = .returned (.int .i64 (nDigits n : Nat)) ∧ w' = w := by
  have hb := nd_bound n h
  by_cases h0 : n = 0
  · subst h0
    have e1 : nDigits 0 = 1 := nDigits_small (by decide)
    rw [e1]
    go_enter Tryd.func49, Tryd.ntmps49
    go_wp2
    go_ret
    exact ⟨rfl, rfl⟩
  · have hn0 : ¬ (n : Int) = 0 := by omega
    have hn1 : ¬ (n : Int) < 0 := by omega
    go_enter Tryd.func49, Tryd.ntmps49
    go_wp2
    go_loopw [0, 3] (fun i c wr => ∃ m k : Nat, i = .int .i64 m ∧ c = .int .i64 k ∧ wr = w ∧ m ≤ n ∧ Hid (k + nd m = nDigits n)) (fun i _ _ => (intOf i).toNat)
    case atStart => exact ⟨n, 0, rfl, rfl, rfl, Nat.le_refl _, by show _ = _; unfold nd; rw [if_neg h0]; omega⟩
    case round =>
      obtain ⟨m, k, rfl, rfl, rfl, hm, HK⟩ := hrel
      by_cases hp : 0 < m
      · have hpi : (0 : Int) < (m : Int) := by omega
        have hk := HK.out
        rw [nd_step hp] at hk
        have hk18 : k + 1 ≤ 18 := by omega
        have HK2 : Hid (k + 1 + nd (m / 10) = nDigits n) := by show _ = _; omega
        clear hk
        have hq : (m : Int).tdiv 10 = ((m / 10 : Nat) : Int) := by rw [Int.tdiv_eq_ediv_of_nonneg (by omega)]; omega
        go_wp2
        go_roundw
        case measure => simp [intOf]; omega
        case rel => exact ⟨m / 10, k + 1, by go_num, by go_num, trivial, by omega, HK2⟩
      · have h1 : m = 0 := by omega
        subst h1
        have hk : k = nDigits n := by have := HK.out; unfold nd at this; simpa using this
        go_wp2
        go_ret
        exact ⟨by rw [← hk]; rfl, rfl⟩

end Go.Proofs.YtaoeelhgfdknfaaDoor
