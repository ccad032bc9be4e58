/- The walk of breakPatterns. Under sizes alone. -/
import Derived.Test.YtaihafoopoaahaaSo4
import Derived.Test.YtaihafoopoaahaaSh1
import Derived.Sort.LotD5
import Derived.Sort.WalkA14
namespace Go.Proofs.Ytaihafoopoaahaa
open Go.RowKit

/-- k rounds of breakPatterns from idx on. -/
def bpGo (a L M : Nat) : Nat → Nat → UInt64 × Array Nat → UInt64 × Array Nat
  | 0, _, st => st
  | k + 1, idx, st => bpGo a L M k (idx + 1) (Sort.breakStep a L M st idx)

theorem size_le_pow (L : Nat) (h : 8 ≤ L) (hL : L ≤ 1099511627776) : L < 1 <<< Sort.bitsLen L ∧ 1 <<< Sort.bitsLen L ≤ 2 * L := by
  have h1 : (1 <<< Sort.bitsLen L : Nat) = 2 ^ (Nat.log2 L + 1) := by
    rw [Nat.one_shiftLeft, Sort.bitsLen, if_neg (by omega)]
  rw [h1]
  have h2 := @Nat.lt_log2_self L
  have h3 : 2 ^ Nat.log2 L ≤ L := Nat.log2_self_le (by omega)
  rw [Nat.pow_succ]
  omega

section
variable {sb blk B sz : Nat} {lt : Nat → Nat → Bool} {R : World → Array Nat → Prop}

/-- In the middle of breakPatterns: beside the row the random number's block. -/
def Rnd (blk g : Nat) (R : World → Array Nat → Prop) (W0 W : World) (d : Array Nat) (x : Nat) : Prop :=
  At blk R W0 W d ∧ Blk W g 75 #[.int .u64 x]

theorem Rnd.swapI (h : SortEnv sb blk B sz lt R) {g x : Nat} {W0 W : World} {d : Array Nat} (k : Rnd blk g R W0 W d x) (hg : B ≤ g) (i j : Nat) (u v : Int) (hu : u = (i : Int)) (hv : v = (j : Int)) (hi : i < sz) (hj : j < sz) :
    Calls Try.prog 66 #[rcv sb, .int .i64 u, .int .i64 v] W fun e w' => e = .returned (.tuple #[]) ∧ Rnd blk g R W0 w' (Sort.swp d i j) x := by
  subst hu hv
  have hl := h.low
  exact (h.swap W d k.1.2 i j hi hj).mono fun _ _ ⟨he, hc, hr⟩ => ⟨he, ⟨k.1.1.trans hc (fun _ _ h => h), hr⟩, k.2.chg hc (by omega)⟩

set_option linter.unusedSimpArgs false in
set_option linter.unusedVariables false in
set_option maxHeartbeats 2000000 in
set_option maxRecDepth 100000 in
theorem breakPatterns_any (h : SortEnv sb blk B sz lt R) (W : World) (d : Array Nat) (hR : R W d) (a b : Nat) (hab : a + 12 < b) (hb : b ≤ sz) :
    Calls Try.prog 36 #[.iface 39 (rcv sb), .int .i64 a, .int .i64 b] W fun e w' => e = .returned (.tuple #[]) ∧ At blk R W w' (Sort.breakPatterns d a b) := by
  have mS := finds_Swap sb
  have eS := enters_Swap
  have hsm := h.small
  obtain ⟨L, hL⟩ : ∃ L, b = a + L := ⟨b - a, by omega⟩
  subst hL
  have hpow := size_le_pow L (by omega) (by omega)
  obtain ⟨M, hM⟩ : ∃ M, M = 1 <<< Sort.bitsLen L := ⟨_, rfl⟩
  rw [← hM] at hpow
  have hNP : ∀ w, Calls Try.prog 43 #[.int .i64 (L : Int)] w fun e w' => e = .returned (.int .u64 (M : Int)) ∧ w' = w := by rw [hM]; exact fun w => Try.nextPowerOfTwo L (by omega) w
  have hEQ : Sort.breakPatterns d a (a + L) = (bpGo a L M 3 (a + L / 4 * 2 - 1) (UInt64.ofNat L, d)).2 := by
    unfold Sort.breakPatterns
    rw [show a + L - a = L by omega]
    dsimp only
    rw [if_pos (by omega), hM]
    rfl
  have HK : Hid (Rnd blk W.heap.size R W (W.alloc (.cells #[.int .u64 L] 75)) d (UInt64.ofNat L).toNat) := by
    refine (⟨⟨(Chg.refl _ _).alloc _, h.grow _ _ _ hR ((Below.refl _ _).alloc (Nat.le_refl _) _)⟩, ?_⟩ : Rnd blk W.heap.size R W (W.alloc (.cells #[.int .u64 L] 75)) d (UInt64.ofNat L).toNat)
    rw [show (UInt64.ofNat L).toNat = L by simp; omega]
    exact Blk.new _ _ _
  have hBW := h.at_ _ _ hR
  have hlow := h.low
  have HE := hide h
  have HR := hide hR
  rw [hEQ]
  clear h hR hM hEQ
  go_enter Try.func36, Try.ntmps36
  go_wp2_with (first | (go_at_call 43; rw [show ((a : Int) + (L : Int) - (a : Int)) = (L : Int) by omega]; refine (hNP _).mono ?_; rintro e w' ⟨rfl, rfl⟩))
  go_loopw [9] (fun s9 wr => ∃ (t : Nat) (r : UInt64) (dk : Array Nat), s9 = .int .i64 ((a + L / 4 * 2 - 1 + t : Nat) : Int) ∧ t ≤ 3 ∧ Hid (Rnd blk W.heap.size R W wr dk r.toNat ∧ bpGo a L M (3 - t) (a + L / 4 * 2 - 1 + t) (r, dk) = bpGo a L M 3 (a + L / 4 * 2 - 1) (UInt64.ofNat L, d))) (fun s9 _ => a + L / 4 * 2 + 3 - (intOf s9).toNat)
  case atStart => exact ⟨0, UInt64.ofNat L, d, by congr 1; omega, by omega, (⟨HK.out, rfl⟩ : Rnd blk W.heap.size R W _ d (UInt64.ofNat L).toNat ∧ bpGo a L M (3 - 0) (a + L / 4 * 2 - 1 + 0) (UInt64.ofNat L, d) = bpGo a L M 3 (a + L / 4 * 2 - 1) (UInt64.ofNat L, d))⟩
  case round =>
    obtain ⟨t, r, dk, rfl, ht, HI⟩ := hrel
    obtain ⟨hrnd, heq⟩ := HI.out
    by_cases ht3 : t = 3
    · subst ht3
      have hF : At blk R W wr (bpGo a L M 3 (a + L / 4 * 2 - 1) (UInt64.ofNat L, d)).2 := by
        rw [← heq]; exact hrnd.1
      have HF := hide hF
      clear hF heq hrnd HI
      go_wp2
      go_end0
      exact ⟨rfl, HF.out⟩
    · obtain ⟨X, hX⟩ : ∃ X : Nat, X = r.toNat := ⟨_, rfl⟩
      have lX : X < 18446744073709551616 := by rw [hX]; exact r.toNat_lt
      obtain ⟨Y, hY⟩ : ∃ Y : Nat, Y = Sort.xorNextN X := ⟨_, rfl⟩
      have lY : Y < 18446744073709551616 := by rw [hY]; exact Sort.xorNextN_lt X lX
      have eY : Y = (Sort.xorNext r).toNat := by rw [hY, hX, Sort.xorNext_toNat]
      obtain ⟨O, hO⟩ : ∃ O : Nat, O = Y &&& (M - 1) := ⟨_, rfl⟩
      have lO : O ≤ M - 1 := by rw [hO]; exact Nat.and_le_right
      have eAnd : bits .and .u64 (Y : Int) ((M : Int) - 1) = (O : Int) := by
        rw [show ((M : Int) - 1) = ((M - 1 : Nat) : Int) by omega, bits_and_u64_nat _ _ lY (by omega), hO]
      have hcB := hrnd.2.cell 0
      have hfB := hrnd.2.frozen 0
      simp at hcB
      rw [← hX] at hcB
      have hNext := Try.xorshift_Next W.heap.size 0 X lX wr hcB hfB
      rw [← hY] at hNext
      have HNEXT : Hid (Rnd blk W.heap.size R W ((wr.setCell ⟨W.heap.size, 0, none⟩ (.int .u64 (Y : Nat))).drewN 3) dk Y) := by
        have hk : Below B wr ((wr.setCell ⟨W.heap.size, 0, none⟩ (.int .u64 (Y : Nat))).drewN 3) := below_drewN ((Below.refl B wr).setCell (p := ⟨W.heap.size, 0, none⟩) hBW _) 3
        refine (⟨⟨(hrnd.1.1.setCell (p := ⟨W.heap.size, 0, none⟩) (fun hlt => absurd hlt (Nat.lt_irrefl _)) _).drewN 3, HE.out.keep _ _ _ hrnd.1.2 hk⟩, ?_⟩ : Rnd blk W.heap.size R W ((wr.setCell ⟨W.heap.size, 0, none⟩ (.int .u64 (Y : Nat))).drewN 3) dk Y)
        exact (hrnd.2.set_ 0 _).drewN 3
      have HEQ := hide heq
      have HS : Hid (Y = (Sort.xorNext r).toNat ∧ O = Y &&& (M - 1)) := (⟨eY, hO⟩ : Y = (Sort.xorNext r).toNat ∧ O = Y &&& (M - 1))
      clear heq hrnd HI hX hY eY hO HK
      go_wp2_with (first | (go_at_call 44; refine hNext.mono ?_; rintro e w' ⟨rfl, rfl⟩))
      · have hstep : Sort.breakStep a L M (r, dk) (a + L / 4 * 2 - 1 + t) = (Sort.xorNext r, Sort.swp dk (a + L / 4 * 2 - 1 + t) (a + (O - L))) := by
          simp only [Sort.breakStep]
          rw [← HS.out.1, ← HS.out.2, if_pos (by omega)]
        have HST : Hid (bpGo a L M (3 - (t + 1)) (a + L / 4 * 2 - 1 + (t + 1)) (Sort.xorNext r, Sort.swp dk (a + L / 4 * 2 - 1 + t) (a + (O - L))) = bpGo a L M 3 (a + L / 4 * 2 - 1) (UInt64.ofNat L, d)) := by
          have h1 := HEQ.out
          rw [show 3 - t = (3 - (t + 1)) + 1 by omega, bpGo, hstep] at h1
          exact h1
        clear hstep
        go_wp2_with fail
        refine (HNEXT.out.swapI HE.out hBW (a + L / 4 * 2 - 1 + t) (a + (O - L)) _ _ (by omega) (by omega) (by omega) (by omega)).mono ?_
        rintro _ w7 ⟨rfl, hk7⟩
        rw [HS.out.1] at hk7
        have HK7 : Hid (Rnd blk W.heap.size R W w7 (Sort.swp dk (a + L / 4 * 2 - 1 + t) (a + (O - L))) (Sort.xorNext r).toNat ∧ bpGo a L M (3 - (t + 1)) (a + L / 4 * 2 - 1 + (t + 1)) (Sort.xorNext r, Sort.swp dk (a + L / 4 * 2 - 1 + t) (a + (O - L))) = bpGo a L M 3 (a + L / 4 * 2 - 1) (UInt64.ofNat L, d)) := (⟨hk7, HST.out⟩ : Rnd blk W.heap.size R W w7 (Sort.swp dk (a + L / 4 * 2 - 1 + t) (a + (O - L))) (Sort.xorNext r).toNat ∧ bpGo a L M (3 - (t + 1)) (a + L / 4 * 2 - 1 + (t + 1)) (Sort.xorNext r, Sort.swp dk (a + L / 4 * 2 - 1 + t) (a + (O - L))) = bpGo a L M 3 (a + L / 4 * 2 - 1) (UInt64.ofNat L, d))
        clear hk7
        go_wp2
        exact ⟨⟨t + 1, Sort.xorNext r, _, by go_num, by omega, HK7⟩, by simp [intOf]; omega⟩
      · have hstep : Sort.breakStep a L M (r, dk) (a + L / 4 * 2 - 1 + t) = (Sort.xorNext r, Sort.swp dk (a + L / 4 * 2 - 1 + t) (a + O)) := by
          simp only [Sort.breakStep]
          rw [← HS.out.1, ← HS.out.2, if_neg (by omega)]
        have HST : Hid (bpGo a L M (3 - (t + 1)) (a + L / 4 * 2 - 1 + (t + 1)) (Sort.xorNext r, Sort.swp dk (a + L / 4 * 2 - 1 + t) (a + O)) = bpGo a L M 3 (a + L / 4 * 2 - 1) (UInt64.ofNat L, d)) := by
          have h1 := HEQ.out
          rw [show 3 - t = (3 - (t + 1)) + 1 by omega, bpGo, hstep] at h1
          exact h1
        clear hstep
        go_wp2_with fail
        refine (HNEXT.out.swapI HE.out hBW (a + L / 4 * 2 - 1 + t) (a + O) _ _ (by omega) (by omega) (by omega) (by omega)).mono ?_
        rintro _ w7 ⟨rfl, hk7⟩
        rw [HS.out.1] at hk7
        have HK7 : Hid (Rnd blk W.heap.size R W w7 (Sort.swp dk (a + L / 4 * 2 - 1 + t) (a + O)) (Sort.xorNext r).toNat ∧ bpGo a L M (3 - (t + 1)) (a + L / 4 * 2 - 1 + (t + 1)) (Sort.xorNext r, Sort.swp dk (a + L / 4 * 2 - 1 + t) (a + O)) = bpGo a L M 3 (a + L / 4 * 2 - 1) (UInt64.ofNat L, d)) := (⟨hk7, HST.out⟩ : Rnd blk W.heap.size R W w7 (Sort.swp dk (a + L / 4 * 2 - 1 + t) (a + O)) (Sort.xorNext r).toNat ∧ bpGo a L M (3 - (t + 1)) (a + L / 4 * 2 - 1 + (t + 1)) (Sort.xorNext r, Sort.swp dk (a + L / 4 * 2 - 1 + t) (a + O)) = bpGo a L M 3 (a + L / 4 * 2 - 1) (UInt64.ofNat L, d))
        clear hk7
        go_wp2
        exact ⟨⟨t + 1, Sort.xorNext r, _, by go_num, by omega, HK7⟩, by simp [intOf]; omega⟩
end
end Go.Proofs.Ytaihafoopoaahaa
