/- The walk of the law FnQueue. Printed by gen_fq.py. -/
import Derived.Test.YtammpllfmbmdmaaSq
import Derived.Test.YtammpllfmbmdmaaIq
import Derived.Test.YtammpllfmbmdmaaWk
namespace Go.Proofs.Ytammpllfmbmdmaa
open Go.RowKit

set_option maxHeartbeats 2000000 in
set_option maxRecDepth 100000 in
theorem fnQueue_0 (ad : Addr) (k c : Nat) (S : List StepD) (w : World) (hs : StepsIn w (fun _ => True) (some ad) k S) (hk : k ≤ maxLen) (hkc : k ≤ c) (hcm : c ≤ maxLen) (hfit : fitsS k S = true) (h300 : k ≤ 300) :
    Calls Try.prog 4 #[.int .i64 0, .slice (some ad) k c] w fun e w' => e = .returned (.bool true) ∧ Below w.heap.size w w' := by
  have HS := hide hs.old
  have hcm2 := hcm
  unfold maxLen at hcm2
  obtain ⟨i0, hinf, hz0, hz1, hz2⟩ := info_parts info31
  have hfits := fits4_any _ (some ad) k c S w hs hk
  rw [hfit] at hfits
  clear hs hfit hk hcm
  go_enter Try.func4, Try.ntmps4
  go_wp2_with fail
  refine hfits.mono ?_
  clear hfits
  rintro e w1 ⟨rfl, hb1⟩
  have HB1 := hide hb1
  have hs1 := hb1.size
  clear hb1
  go_wp2
  go_loopw [5, 6, 29] (fun v5 v6 i wr => ∃ (j : Nat) (LA : Option Addr) (ln lc : Nat) (P : List (AnsD × Value)), j ≤ k ∧ i = .int .i64 j ∧ v5 = .slice LA ln lc ∧ FqI 0 S w wr j LA ln lc v6 P) (fun _ _ i _ => k - (intOf i).toNat)
  case atStart => exact ⟨0, none, 0, 0, [], Nat.zero_le _, rfl, rfl, fqi_start 0 S w w1 HB1.out⟩
  case round =>
    obtain ⟨j, LA, ln, lc, P, hj, rfl, rfl, hI⟩ := hrel
    have HI := hide hI
    have hwr := hI.bel.size
    have hlnj := hI.small
    clear hI
    have hsr := HS.out.keep HI.out.bel.size (fun p hp _ => HI.out.bel.cell hp)
    have HSR := hide hsr
    clear hsr
    by_cases hlt : j < k
    · obtain ⟨ad', s, SA, sc, he, hx, hst⟩ := HSR.out.2 j hlt
      injection he with he
      subst he
      have HX := hide hx
      have HSL := hide hst.sl
      obtain ⟨c0, c1, c2, c3, c4, c5, c6, c7⟩ := And.intro hst.c0 (And.intro hst.c1 (And.intro hst.c2 (And.intro hst.c3 (And.intro hst.c4 (And.intro hst.c5 (And.intro hst.c6 hst.c7))))))
      clear hx hst
      go_wp2_with fail
      have hstep := step_any s SA s.list.length sc
      unfold StepD.cells at hstep
      refine (hstep _).mono ?_
      clear hstep
      rintro e w2 ⟨rfl, hb2⟩
      have hbx : Below wr.heap.size wr (wr.alloc (.cells (s.cells (.slice SA s.list.length sc)) 29)) := (Below.refl _ _).alloc (Nat.le_refl _) _
      unfold StepD.cells at hbx
      have HB2 : Hid (Below wr.heap.size wr w2) := hbx.trans (hb2.mono (by simp))
      have hs2 := HB2.out.size
      clear hb2 hbx c0 c1 c2 c3 c4 c5 c6 c7
      go_wp2_with fail
      have hsp := squeue0 LA ln lc (qSt 0 [] (S.take j)) s SA sc w2 (HI.out.sl.rowBelow HB2.out) (by omega)
      unfold StepD.cells at hsp
      refine hsp.mono ?_
      clear hsp
      rintro e w3 ⟨NA, nc, rfl, hsl3, hb3⟩
      have HSL3 := hide hsl3
      have HB3 : Hid (Below wr.heap.size wr w3) := HB2.out.trans (hb3.mono hs2)
      have hs3 := HB3.out.size
      clear hsl3 hb3
      generalize hsq : specQ 0 (qSt 0 [] (S.take j)) s = r at *
      have HSQ := hide hsq
      clear hsq
      obtain ⟨l', a, fits⟩ := r
      simp only at HSL3 HSQ ⊢
      have hpn : a.panicked = false := by have := HSQ.out; exact specQ_pan this
      have hal : a.list = [] := by have := HSQ.out; exact specQ_list this
      have HPN := hide hpn
      have HAL := hide hal
      obtain ⟨m, hm⟩ : ∃ m, m = P.length := ⟨_, rfl⟩
      have HM := hide hm
      have hmj : m = j := by rw [hm]; exact HI.out.len
      have hown := (own_chg HI.out.want.own (Chg.ofBelow HB3.out (fun _ => False)) (fun _ _ h => h))
      rw [← hm] at hown
      clear hm hal
      unfold AnsD.cells
      rw [hpn]
      cases fits
      · have hbx2 : Below wr.heap.size wr (w3.alloc (.cells #[.int .i64 a.n, .bool a.ok, .slice none 0 0, .bool false] 31)) := HB3.out.alloc hs3 _
        have WANT : Hid (OutRow (w3.alloc (.cells #[.int .i64 a.n, .bool a.ok, .slice none 0 0, .bool false] 31)) (fun _ => True) 31 w.heap.size u6 P) := HI.out.want.below hbx2
        have PLEN : Hid (P.length = j) := HI.out.len
        have PEQ : Hid (P.map (·.1) = qAns 0 [] (S.take j)) := HI.out.eq
        have GOOD : Hid (∀ s ∈ S.take j, 0 ≤ s.what ∧ s.what ≤ 6) := HI.out.good
        have HSW : Hid (StepsIn (w3.alloc (.cells #[.int .i64 a.n, .bool a.ok, .slice none 0 0, .bool false] 31)) (fun _ => True) (some ad) k S) := (HSR.out.more (K' := fun _ => True) (fun _ _ => trivial)).keep hbx2.size (fun p hp _ => hbx2.cell hp)
        have HBW : Hid (Below w.heap.size w (w3.alloc (.cells #[.int .i64 a.n, .bool a.ok, .slice none 0 0, .bool false] 31))) := HI.out.bel.trans (hbx2.mono hwr)
        have hsz : w.heap.size ≤ (w3.alloc (.cells #[.int .i64 a.n, .bool a.ok, .slice none 0 0, .bool false] 31)).heap.size := HBW.out.size
        clear hbx2 hown
        obtain ⟨WA, wc, rfl, hPm, hans⟩ := WANT.out.ansIn
        have HANS := hide hans
        have HPL := hide (show P.length = j from PLEN.out)
        clear hans
        generalize hpl : P.length = pl at *
        have HPP := hide hpl
        have hplj : pl = j := HPL.out
        subst hplj
        clear hpl
        go_wp2_with fail
        generalize w3.alloc (.cells #[.int .i64 a.n, .bool a.ok, .slice none 0 0, .bool false] 31) = W at *
        have hq := queue_walk (mach0 W.heap.size W.heap.size (W.heap.size + 3) (W.heap.size + 4) (W.heap.size + 5) (W.heap.size + 6) (W.heap.size + 1)) (mach0_ok _ _ _ _ _ _ _) [] 0 (some ad) pl c (S.take pl) W rfl rfl rfl (fun W2 hw => mach0_inv _ W2 hw) (HSW.out.take (by omega)) (by omega) (mach0_good _ _ _ _ _ _ _ [] _ (fun s hs => GOOD.out s hs) (by have := HSW.out.1; simp; omega))
        rw [mach0_outs, ← PEQ.out] at hq
        refine hq.mono ?_
        clear hq
        rintro e w2 ⟨RA, rc, rfl, hm2, hans2, hbl2⟩
        have HA2 := hide hans2
        have HB9 := hide hbl2
        have hsz2 := hbl2.size
        have hPl2 : (P.map (·.1)).length = pl := by rw [List.length_map]; exact HPP.out
        rw [hPl2] at HA2 hm2 ⊢
        clear hans2 hbl2
        go_wp2_with fail
        refine (alike_eq RA WA pl rc wc (P.map (·.1)) w2 HA2.out (HANS.out.below HB9.out) hm2).mono ?_
        rintro e w9 ⟨rfl, hb3⟩
        have HB10 := hide hb3
        have hsz3 := hb3.size
        clear hb3
        go_wp2_with fail
        refine (works_any w9).mono ?_
        rintro e w10 ⟨rfl, hb4⟩
        have HB11 := hide hb4
        clear hb4
        go_wp2
        go_ret
        exact ⟨rfl, HBW.out.trans ((HB9.out.mono hsz).trans ((HB10.out.mono (by omega)).trans (HB11.out.mono (by omega))))⟩
      · go_wp2_with (at_builtin; go_must (refine wpList_append_ans rfl _ _ 26 rfl 31 i0 _ Try.underlying26 hinf hz0 hz1 hz2 rfl w3 w.heap.size u6 m _ hown a.n a.ok none 0 0 false rfl rfl (by omega) (by omega) ?_); intro v' w6 hown' hc6 hat hb6; have HOWN6 := hide hown'; have HC6 := hide hc6; clear hown' hc6 hat hb6)
        go_roundw
        case measure => simp [intOf]; omega
        case rel =>
          have hown2 := HOWN6.out
          rw [HM.out] at hown2
          have hts : S.take (j + 1) = S.take j ++ [s] := by rw [List.take_add_one, HX.out]; rfl
          refine ⟨j + 1, NA, l'.length, nc, P ++ [(a, .slice none 0 0)], by omega, by go_num, rfl, ?_⟩
          exact fqi_step HI.out hts HSQ.out HB3.out HSL3.out hown2 HC6.out HPN.out HAL.out
    · have WANT : Hid (OutRow wr (fun _ => True) 31 w.heap.size u6 P) := HI.out.want
      have PLEN : Hid (P.length = j) := HI.out.len
      have PEQ : Hid (P.map (·.1) = qAns 0 [] (S.take j)) := HI.out.eq
      have GOOD : Hid (∀ s ∈ S.take j, 0 ≤ s.what ∧ s.what ≤ 6) := HI.out.good
      have HSW : Hid (StepsIn wr (fun _ => True) (some ad) k S) := HSR.out.more (K' := fun _ => True) (fun _ _ => trivial)
      have HBW : Hid (Below w.heap.size w wr) := HI.out.bel
      have hsz : w.heap.size ≤ wr.heap.size := hwr
      generalize wr = W at *
      obtain ⟨WA, wc, rfl, hPm, hans⟩ := WANT.out.ansIn
      have HANS := hide hans
      have HPL := hide (show P.length = j from PLEN.out)
      clear hans
      generalize hpl : P.length = pl at *
      have HPP := hide hpl
      have hplj : pl = j := HPL.out
      subst hplj
      clear hpl
      go_wp2_with fail
      have hq := queue_walk (mach0 W.heap.size W.heap.size (W.heap.size + 3) (W.heap.size + 4) (W.heap.size + 5) (W.heap.size + 6) (W.heap.size + 1)) (mach0_ok _ _ _ _ _ _ _) [] 0 (some ad) pl c (S.take pl) W rfl rfl rfl (fun W2 hw => mach0_inv _ W2 hw) (HSW.out.take (by omega)) (by omega) (mach0_good _ _ _ _ _ _ _ [] _ (fun s hs => GOOD.out s hs) (by have := HSW.out.1; simp; omega))
      rw [mach0_outs, ← PEQ.out] at hq
      refine hq.mono ?_
      clear hq
      rintro e w2 ⟨RA, rc, rfl, hm2, hans2, hbl2⟩
      have HA2 := hide hans2
      have HB9 := hide hbl2
      have hsz2 := hbl2.size
      have hPl2 : (P.map (·.1)).length = pl := by rw [List.length_map]; exact HPP.out
      rw [hPl2] at HA2 hm2 ⊢
      clear hans2 hbl2
      go_wp2_with fail
      refine (alike_eq RA WA pl rc wc (P.map (·.1)) w2 HA2.out (HANS.out.below HB9.out) hm2).mono ?_
      rintro e w9 ⟨rfl, hb3⟩
      have HB10 := hide hb3
      have hsz3 := hb3.size
      clear hb3
      go_wp2_with fail
      refine (works_any w9).mono ?_
      rintro e w10 ⟨rfl, hb4⟩
      have HB11 := hide hb4
      clear hb4
      go_wp2
      go_ret
      exact ⟨rfl, HBW.out.trans ((HB9.out.mono hsz).trans ((HB10.out.mono (by omega)).trans (HB11.out.mono (by omega))))⟩

set_option maxHeartbeats 2000000 in
set_option maxRecDepth 100000 in
theorem fnQueue_1 (ad : Addr) (k c : Nat) (S : List StepD) (w : World) (hs : StepsIn w (fun _ => True) (some ad) k S) (hk : k ≤ maxLen) (hkc : k ≤ c) (hcm : c ≤ maxLen) (hfit : fitsS k S = true) (h300 : k ≤ 300) :
    Calls Try.prog 4 #[.int .i64 1, .slice (some ad) k c] w fun e w' => e = .returned (.bool true) ∧ Below w.heap.size w w' := by
  have HS := hide hs.old
  have hcm2 := hcm
  unfold maxLen at hcm2
  obtain ⟨i0, hinf, hz0, hz1, hz2⟩ := info_parts info31
  have hfits := fits4_any _ (some ad) k c S w hs hk
  rw [hfit] at hfits
  clear hs hfit hk hcm
  go_enter Try.func4, Try.ntmps4
  go_wp2_with fail
  refine hfits.mono ?_
  clear hfits
  rintro e w1 ⟨rfl, hb1⟩
  have HB1 := hide hb1
  have hs1 := hb1.size
  clear hb1
  go_wp2
  go_loopw [5, 6, 29] (fun v5 v6 i wr => ∃ (j : Nat) (LA : Option Addr) (ln lc : Nat) (P : List (AnsD × Value)), j ≤ k ∧ i = .int .i64 j ∧ v5 = .slice LA ln lc ∧ FqI 1 S w wr j LA ln lc v6 P) (fun _ _ i _ => k - (intOf i).toNat)
  case atStart => exact ⟨0, none, 0, 0, [], Nat.zero_le _, rfl, rfl, fqi_start 1 S w w1 HB1.out⟩
  case round =>
    obtain ⟨j, LA, ln, lc, P, hj, rfl, rfl, hI⟩ := hrel
    have HI := hide hI
    have hwr := hI.bel.size
    have hlnj := hI.small
    clear hI
    have hsr := HS.out.keep HI.out.bel.size (fun p hp _ => HI.out.bel.cell hp)
    have HSR := hide hsr
    clear hsr
    by_cases hlt : j < k
    · obtain ⟨ad', s, SA, sc, he, hx, hst⟩ := HSR.out.2 j hlt
      injection he with he
      subst he
      have HX := hide hx
      have HSL := hide hst.sl
      obtain ⟨c0, c1, c2, c3, c4, c5, c6, c7⟩ := And.intro hst.c0 (And.intro hst.c1 (And.intro hst.c2 (And.intro hst.c3 (And.intro hst.c4 (And.intro hst.c5 (And.intro hst.c6 hst.c7))))))
      clear hx hst
      go_wp2_with fail
      have hstep := step_any s SA s.list.length sc
      unfold StepD.cells at hstep
      refine (hstep _).mono ?_
      clear hstep
      rintro e w2 ⟨rfl, hb2⟩
      have hbx : Below wr.heap.size wr (wr.alloc (.cells (s.cells (.slice SA s.list.length sc)) 29)) := (Below.refl _ _).alloc (Nat.le_refl _) _
      unfold StepD.cells at hbx
      have HB2 : Hid (Below wr.heap.size wr w2) := hbx.trans (hb2.mono (by simp))
      have hs2 := HB2.out.size
      clear hb2 hbx c0 c1 c2 c3 c4 c5 c6 c7
      go_wp2_with fail
      have hsp := squeue1 LA ln lc (qSt 1 [] (S.take j)) s SA sc w2 (HI.out.sl.rowBelow HB2.out) (by omega)
      unfold StepD.cells at hsp
      refine hsp.mono ?_
      clear hsp
      rintro e w3 ⟨NA, nc, rfl, hsl3, hb3⟩
      have HSL3 := hide hsl3
      have HB3 : Hid (Below wr.heap.size wr w3) := HB2.out.trans (hb3.mono hs2)
      have hs3 := HB3.out.size
      clear hsl3 hb3
      generalize hsq : specQ 1 (qSt 1 [] (S.take j)) s = r at *
      have HSQ := hide hsq
      clear hsq
      obtain ⟨l', a, fits⟩ := r
      simp only at HSL3 HSQ ⊢
      have hpn : a.panicked = false := by have := HSQ.out; exact specQ_pan this
      have hal : a.list = [] := by have := HSQ.out; exact specQ_list this
      have HPN := hide hpn
      have HAL := hide hal
      obtain ⟨m, hm⟩ : ∃ m, m = P.length := ⟨_, rfl⟩
      have HM := hide hm
      have hmj : m = j := by rw [hm]; exact HI.out.len
      have hown := (own_chg HI.out.want.own (Chg.ofBelow HB3.out (fun _ => False)) (fun _ _ h => h))
      rw [← hm] at hown
      clear hm hal
      unfold AnsD.cells
      rw [hpn]
      cases fits
      · have hbx2 : Below wr.heap.size wr (w3.alloc (.cells #[.int .i64 a.n, .bool a.ok, .slice none 0 0, .bool false] 31)) := HB3.out.alloc hs3 _
        have WANT : Hid (OutRow (w3.alloc (.cells #[.int .i64 a.n, .bool a.ok, .slice none 0 0, .bool false] 31)) (fun _ => True) 31 w.heap.size u6 P) := HI.out.want.below hbx2
        have PLEN : Hid (P.length = j) := HI.out.len
        have PEQ : Hid (P.map (·.1) = qAns 1 [] (S.take j)) := HI.out.eq
        have GOOD : Hid (∀ s ∈ S.take j, 0 ≤ s.what ∧ s.what ≤ 6) := HI.out.good
        have HSW : Hid (StepsIn (w3.alloc (.cells #[.int .i64 a.n, .bool a.ok, .slice none 0 0, .bool false] 31)) (fun _ => True) (some ad) k S) := (HSR.out.more (K' := fun _ => True) (fun _ _ => trivial)).keep hbx2.size (fun p hp _ => hbx2.cell hp)
        have HBW : Hid (Below w.heap.size w (w3.alloc (.cells #[.int .i64 a.n, .bool a.ok, .slice none 0 0, .bool false] 31))) := HI.out.bel.trans (hbx2.mono hwr)
        have hsz : w.heap.size ≤ (w3.alloc (.cells #[.int .i64 a.n, .bool a.ok, .slice none 0 0, .bool false] 31)).heap.size := HBW.out.size
        clear hbx2 hown
        obtain ⟨WA, wc, rfl, hPm, hans⟩ := WANT.out.ansIn
        have HANS := hide hans
        have HPL := hide (show P.length = j from PLEN.out)
        clear hans
        generalize hpl : P.length = pl at *
        have HPP := hide hpl
        have hplj : pl = j := HPL.out
        subst hplj
        clear hpl
        go_wp2_with fail
        generalize w3.alloc (.cells #[.int .i64 a.n, .bool a.ok, .slice none 0 0, .bool false] 31) = W at *
        have hq := queue_walk (mach1 W.heap.size W.heap.size (W.heap.size + 3) (W.heap.size + 4) (W.heap.size + 5) (W.heap.size + 6) (W.heap.size + 2)) (mach1_ok _ _ _ _ _ _ _) [] 1 (some ad) pl c (S.take pl) W rfl rfl rfl (fun W2 hw => mach1_inv _ W2 hw) (HSW.out.take (by omega)) (by omega) (mach1_good _ _ _ _ _ _ _ [] _ (fun s hs => GOOD.out s hs) (by have := HSW.out.1; simp; omega))
        rw [mach1_outs, ← PEQ.out] at hq
        refine hq.mono ?_
        clear hq
        rintro e w2 ⟨RA, rc, rfl, hm2, hans2, hbl2⟩
        have HA2 := hide hans2
        have HB9 := hide hbl2
        have hsz2 := hbl2.size
        have hPl2 : (P.map (·.1)).length = pl := by rw [List.length_map]; exact HPP.out
        rw [hPl2] at HA2 hm2 ⊢
        clear hans2 hbl2
        go_wp2_with fail
        refine (alike_eq RA WA pl rc wc (P.map (·.1)) w2 HA2.out (HANS.out.below HB9.out) hm2).mono ?_
        rintro e w9 ⟨rfl, hb3⟩
        have HB10 := hide hb3
        have hsz3 := hb3.size
        clear hb3
        go_wp2_with fail
        refine (works_any w9).mono ?_
        rintro e w10 ⟨rfl, hb4⟩
        have HB11 := hide hb4
        clear hb4
        go_wp2
        go_ret
        exact ⟨rfl, HBW.out.trans ((HB9.out.mono hsz).trans ((HB10.out.mono (by omega)).trans (HB11.out.mono (by omega))))⟩
      · go_wp2_with (at_builtin; go_must (refine wpList_append_ans rfl _ _ 26 rfl 31 i0 _ Try.underlying26 hinf hz0 hz1 hz2 rfl w3 w.heap.size u6 m _ hown a.n a.ok none 0 0 false rfl rfl (by omega) (by omega) ?_); intro v' w6 hown' hc6 hat hb6; have HOWN6 := hide hown'; have HC6 := hide hc6; clear hown' hc6 hat hb6)
        go_roundw
        case measure => simp [intOf]; omega
        case rel =>
          have hown2 := HOWN6.out
          rw [HM.out] at hown2
          have hts : S.take (j + 1) = S.take j ++ [s] := by rw [List.take_add_one, HX.out]; rfl
          refine ⟨j + 1, NA, l'.length, nc, P ++ [(a, .slice none 0 0)], by omega, by go_num, rfl, ?_⟩
          exact fqi_step HI.out hts HSQ.out HB3.out HSL3.out hown2 HC6.out HPN.out HAL.out
    · have WANT : Hid (OutRow wr (fun _ => True) 31 w.heap.size u6 P) := HI.out.want
      have PLEN : Hid (P.length = j) := HI.out.len
      have PEQ : Hid (P.map (·.1) = qAns 1 [] (S.take j)) := HI.out.eq
      have GOOD : Hid (∀ s ∈ S.take j, 0 ≤ s.what ∧ s.what ≤ 6) := HI.out.good
      have HSW : Hid (StepsIn wr (fun _ => True) (some ad) k S) := HSR.out.more (K' := fun _ => True) (fun _ _ => trivial)
      have HBW : Hid (Below w.heap.size w wr) := HI.out.bel
      have hsz : w.heap.size ≤ wr.heap.size := hwr
      generalize wr = W at *
      obtain ⟨WA, wc, rfl, hPm, hans⟩ := WANT.out.ansIn
      have HANS := hide hans
      have HPL := hide (show P.length = j from PLEN.out)
      clear hans
      generalize hpl : P.length = pl at *
      have HPP := hide hpl
      have hplj : pl = j := HPL.out
      subst hplj
      clear hpl
      go_wp2_with fail
      have hq := queue_walk (mach1 W.heap.size W.heap.size (W.heap.size + 3) (W.heap.size + 4) (W.heap.size + 5) (W.heap.size + 6) (W.heap.size + 2)) (mach1_ok _ _ _ _ _ _ _) [] 1 (some ad) pl c (S.take pl) W rfl rfl rfl (fun W2 hw => mach1_inv _ W2 hw) (HSW.out.take (by omega)) (by omega) (mach1_good _ _ _ _ _ _ _ [] _ (fun s hs => GOOD.out s hs) (by have := HSW.out.1; simp; omega))
      rw [mach1_outs, ← PEQ.out] at hq
      refine hq.mono ?_
      clear hq
      rintro e w2 ⟨RA, rc, rfl, hm2, hans2, hbl2⟩
      have HA2 := hide hans2
      have HB9 := hide hbl2
      have hsz2 := hbl2.size
      have hPl2 : (P.map (·.1)).length = pl := by rw [List.length_map]; exact HPP.out
      rw [hPl2] at HA2 hm2 ⊢
      clear hans2 hbl2
      go_wp2_with fail
      refine (alike_eq RA WA pl rc wc (P.map (·.1)) w2 HA2.out (HANS.out.below HB9.out) hm2).mono ?_
      rintro e w9 ⟨rfl, hb3⟩
      have HB10 := hide hb3
      have hsz3 := hb3.size
      clear hb3
      go_wp2_with fail
      refine (works_any w9).mono ?_
      rintro e w10 ⟨rfl, hb4⟩
      have HB11 := hide hb4
      clear hb4
      go_wp2
      go_ret
      exact ⟨rfl, HBW.out.trans ((HB9.out.mono hsz).trans ((HB10.out.mono (by omega)).trans (HB11.out.mono (by omega))))⟩

set_option maxHeartbeats 1000000 in
set_option maxRecDepth 100000 in
theorem fnQueue_none_0 (w : World) : Calls Try.prog 4 #[.int .i64 0, .slice none 0 0] w fun e w' => e = .returned (.bool true) ∧ Below w.heap.size w w' := by
  have hs : ∀ W, StepsIn W (fun _ => True) none 0 [] := fun W => ⟨rfl, fun i hi => by omega⟩
  have hfits := fits4_any _ none 0 0 [] w (hs w) (by simp [maxLen])
  have hf : fitsS 0 [] = true := by decide
  rw [hf] at hfits
  clear hf
  go_enter Try.func4, Try.ntmps4
  go_wp2_with fail
  refine hfits.mono ?_
  clear hfits
  rintro e w1 ⟨rfl, hb1⟩
  have HB1 := hide hb1
  have hs1 := hb1.size
  clear hb1
  go_wp2
  refine wp_loop_rounds 1 ?_
  rw [rounds_succ]
  go_wp2_with fail
  have hq := queue_walk (mach0 w1.heap.size w1.heap.size (w1.heap.size + 3) (w1.heap.size + 4) (w1.heap.size + 5) (w1.heap.size + 6) (w1.heap.size + 1)) (mach0_ok _ _ _ _ _ _ _) [] 0 none 0 0 [] w1 rfl rfl rfl (fun W2 hw => mach0_inv _ W2 hw) (hs w1) (by omega) trivial
  rw [mach0_outs] at hq
  refine hq.mono ?_
  clear hq
  rintro e w2 ⟨RA, rc, rfl, hm2, hans2, hbl2⟩
  have HB9 := hide hbl2
  have hsz2 := hbl2.size
  have HA2 : Hid (AnsIn w2 RA 0 []) := hans2
  clear hans2 hbl2
  show (match (Ending.returned (.slice RA 0 rc)), w2 with | _, _ => _)
  go_wp2_with fail
  refine (alike_eq RA none 0 rc 0 [] w2 HA2.out ⟨rfl, fun i hi => by omega⟩ (by simp [maxLen])).mono ?_
  rintro e w9 ⟨rfl, hb3⟩
  have HB10 := hide hb3
  have hsz3 := hb3.size
  clear hb3
  go_wp2_with fail
  refine (works_any w9).mono ?_
  rintro e w10 ⟨rfl, hb4⟩
  have HB11 := hide hb4
  clear hb4
  go_wp2
  go_ret
  exact ⟨rfl, HB1.out.trans ((HB9.out.mono hs1).trans ((HB10.out.mono (by omega)).trans (HB11.out.mono (by omega))))⟩

set_option maxHeartbeats 1000000 in
set_option maxRecDepth 100000 in
theorem fnQueue_none_1 (w : World) : Calls Try.prog 4 #[.int .i64 1, .slice none 0 0] w fun e w' => e = .returned (.bool true) ∧ Below w.heap.size w w' := by
  have hs : ∀ W, StepsIn W (fun _ => True) none 0 [] := fun W => ⟨rfl, fun i hi => by omega⟩
  have hfits := fits4_any _ none 0 0 [] w (hs w) (by simp [maxLen])
  have hf : fitsS 0 [] = true := by decide
  rw [hf] at hfits
  clear hf
  go_enter Try.func4, Try.ntmps4
  go_wp2_with fail
  refine hfits.mono ?_
  clear hfits
  rintro e w1 ⟨rfl, hb1⟩
  have HB1 := hide hb1
  have hs1 := hb1.size
  clear hb1
  go_wp2
  refine wp_loop_rounds 1 ?_
  rw [rounds_succ]
  go_wp2_with fail
  have hq := queue_walk (mach1 w1.heap.size w1.heap.size (w1.heap.size + 3) (w1.heap.size + 4) (w1.heap.size + 5) (w1.heap.size + 6) (w1.heap.size + 2)) (mach1_ok _ _ _ _ _ _ _) [] 1 none 0 0 [] w1 rfl rfl rfl (fun W2 hw => mach1_inv _ W2 hw) (hs w1) (by omega) trivial
  rw [mach1_outs] at hq
  refine hq.mono ?_
  clear hq
  rintro e w2 ⟨RA, rc, rfl, hm2, hans2, hbl2⟩
  have HB9 := hide hbl2
  have hsz2 := hbl2.size
  have HA2 : Hid (AnsIn w2 RA 0 []) := hans2
  clear hans2 hbl2
  show (match (Ending.returned (.slice RA 0 rc)), w2 with | _, _ => _)
  go_wp2_with fail
  refine (alike_eq RA none 0 rc 0 [] w2 HA2.out ⟨rfl, fun i hi => by omega⟩ (by simp [maxLen])).mono ?_
  rintro e w9 ⟨rfl, hb3⟩
  have HB10 := hide hb3
  have hsz3 := hb3.size
  clear hb3
  go_wp2_with fail
  refine (works_any w9).mono ?_
  rintro e w10 ⟨rfl, hb4⟩
  have HB11 := hide hb4
  clear hb4
  go_wp2
  go_ret
  exact ⟨rfl, HB1.out.trans ((HB9.out.mono hs1).trans ((HB10.out.mono (by omega)).trans (HB11.out.mono (by omega))))⟩

set_option maxHeartbeats 1000000 in
theorem fnQueue_rest (z : Int) (A : Option Addr) (k c : Nat) (S : List StepD) (w : World) (hs : StepsIn w (fun _ => True) A k S) (hk : k ≤ maxLen) (hfit : fitsS k S = true) (h : z < 0 ∨ (¬ z < 0 ∧ 1 < z) ∨ (¬ z < 0 ∧ ¬ 1 < z ∧ 300 < k)) :
    Calls Try.prog 4 #[.int .i64 z, .slice A k c] w fun e w' => e = .returned (.bool true) ∧ Below w.heap.size w w' := by
  have hfits := fits4_any _ A k c S w hs hk
  rw [hfit] at hfits
  have hk2 := hk
  unfold maxLen at hk2
  clear hs hfit
  rcases h with h | ⟨h1, h⟩ | ⟨h1, h2, h⟩
  · go_enter Try.func4, Try.ntmps4
    go_wp2_with fail
    refine hfits.mono ?_
    rintro e w1 ⟨rfl, hb1⟩
    have HB1 := hide hb1
    have hs1 := hb1.size
    clear hb1 hfits
    go_wp2_with fail
    refine (works_any w1).mono ?_
    rintro e w2 ⟨rfl, hb2⟩
    have HB2 := hide hb2
    clear hb2
    go_wp2
    go_ret
    exact ⟨rfl, HB1.out.trans (HB2.out.mono hs1)⟩
  · have hd : decide (z < 0) = false := decide_eq_false h1
    go_enter Try.func4, Try.ntmps4
    go_wp2_with fail
    refine hfits.mono ?_
    rintro e w1 ⟨rfl, hb1⟩
    have HB1 := hide hb1
    have hs1 := hb1.size
    clear hb1 hfits
    go_wp2_with fail
    refine (works_any w1).mono ?_
    rintro e w2 ⟨rfl, hb2⟩
    have HB2 := hide hb2
    clear hb2
    go_wp2
    go_ret
    exact ⟨rfl, HB1.out.trans (HB2.out.mono hs1)⟩
  · have hd : decide (z < 0) = false := decide_eq_false h1
    have hd2 : decide (1 < z) = false := decide_eq_false h2
    go_enter Try.func4, Try.ntmps4
    go_wp2_with fail
    refine hfits.mono ?_
    rintro e w1 ⟨rfl, hb1⟩
    have HB1 := hide hb1
    have hs1 := hb1.size
    clear hb1 hfits
    go_wp2_with fail
    refine (works_any w1).mono ?_
    rintro e w2 ⟨rfl, hb2⟩
    have HB2 := hide hb2
    clear hb2
    go_wp2
    go_ret
    exact ⟨rfl, HB1.out.trans (HB2.out.mono hs1)⟩

set_option maxHeartbeats 1000000 in
theorem fnQueue_any (z : Int) (A : Option Addr) (k c : Nat) (S : List StepD) (w : World) (hs : StepsIn w (fun _ => True) A k S) (hk : k ≤ maxLen) (hkc : k ≤ c) (hcm : c ≤ maxLen) (hnil : A = none → c = 0) :
    Calls Try.prog 4 #[.int .i64 z, .slice A k c] w fun e w' => e = .returned (.bool true) ∧ Below w.heap.size w w' := by
  by_cases hfit : fitsS k S = true
  · by_cases h0 : z < 0
    · exact fnQueue_rest z A k c S w hs hk hfit (Or.inl h0)
    · by_cases h1 : 1 < z
      · exact fnQueue_rest z A k c S w hs hk hfit (Or.inr (Or.inl ⟨h0, h1⟩))
      · by_cases h3 : 300 < k
        · exact fnQueue_rest z A k c S w hs hk hfit (Or.inr (Or.inr ⟨h0, h1, h3⟩))
        · have hz : z = 0 ∨ z = 1 := by omega
          cases A with
          | none =>
            have hc := hnil rfl
            subst hc
            have hk0 : k = 0 := by omega
            subst hk0
            rcases hz with rfl | rfl
            · exact fnQueue_none_0 w
            · exact fnQueue_none_1 w
          | some ad =>
            rcases hz with rfl | rfl
            · exact fnQueue_0 ad k c S w hs hk hkc hcm hfit (by omega)
            · exact fnQueue_1 ad k c S w hs hk hkc hcm hfit (by omega)
  · have hfit' : fitsS k S = false := by simpa using hfit
    have hfits := fits4_any _ A k c S w hs hk
    rw [hfit'] at hfits
    have hk2 := hk
    unfold maxLen at hk2
    clear hfit hfit' hs
    go_enter Try.func4, Try.ntmps4
    go_wp2_with fail
    refine hfits.mono ?_
    rintro e w1 ⟨rfl, hb1⟩
    have HB1 := hide hb1
    clear hb1 hfits
    go_wp2_with fail
    go_ret
    exact ⟨rfl, HB1.out⟩
end Go.Proofs.Ytammpllfmbmdmaa
