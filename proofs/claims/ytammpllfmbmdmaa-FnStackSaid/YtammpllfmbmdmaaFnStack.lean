/- The walk of the law FnStack. Printed by gen_fs.py. -/
import Derived.Test.YtammpllfmbmdmaaSs
import Derived.Test.YtammpllfmbmdmaaLw
namespace Go.Proofs.Ytammpllfmbmdmaa
open Go.RowKit

def goodK (l : List Int) (s : StepD) : Prop := 0 ≤ s.what ∧ s.what ≤ 6 ∧ l.length ≤ 1099511627776

theorem mach2_inv (s : Nat) (W : World) (h : QW s 2 W) : ∃ F, (mach2 s s (s + 3) (s + 4) (s + 5) (s + 6)).Inv W [] F := by
  refine ⟨fun i => i = s ∨ i = s + 5, h.k, ⟨_, ⟨h.sv, World.ownsRow_nil _ _ _ _⟩, fun g hg => by cases hg⟩, Or.inl rfl, Or.inr rfl, fun i hi => ?_⟩
  have := h.size
  constructor
  · show s ≤ i
    rcases hi with rfl | rfl <;> omega
  · rcases hi with rfl | rfl <;> omega

/-- What spec.Stack says of a step that it takes. -/
theorem specSt_some {l l' : List Int} {s : StepD} {a : AnsD} (h : specSt l s = (l', a, true)) : a.list = [] ∧ 0 ≤ s.what ∧ s.what ≤ 6 ∧ ((a.panicked = false ∧ specK l s = (l', some a)) ∨ (a = panAns ∧ (specK l s).2 = none)) := by
  unfold specSt at h
  by_cases hw : (s.what = 1 ∨ s.what = 2) ∧ l = []
  · rw [if_pos hw] at h
    injection h with h1 h2
    injection h2 with h2 _
    subst h2
    obtain ⟨hw, rfl⟩ := hw
    refine ⟨rfl, by omega, by omega, Or.inr ⟨rfl, ?_⟩⟩
    rcases hw with hw | hw <;> simp [specK, hw]
  · rw [if_neg hw] at h
    injection h with h1 h2
    injection h2 with h2 h3
    subst h2
    have hr := (specQ_ans (k := 0) (l := l) (s := s) (l' := _) (a := _) (b := _) rfl).2.2 h3
    refine ⟨rfl, hr.1, hr.2, Or.inl ⟨rfl, ?_⟩⟩
    subst h1
    by_cases h0 : s.what = 0
    · simp [specK, specQ, h0, zeroAns]
    · by_cases h1 : s.what = 1
      · rcases List.eq_nil_or_concat l with rfl | ⟨y, z, rfl⟩
        · exact absurd ⟨Or.inl h1, rfl⟩ hw
        · simp [specK, specQ, h1, atAns, List.eraseIdx_append_of_length_le]
      · by_cases h2 : s.what = 2
        · rcases List.eq_nil_or_concat l with rfl | ⟨y, z, rfl⟩
          · exact absurd ⟨Or.inr h2, rfl⟩ hw
          · simp [specK, specQ, h2, atAns]
        · by_cases h3 : s.what = 3
          · simp [specK, specQ, h3]
          · simp [specK, specQ, h0, h1, h2, h3, zeroAns]

theorem specK_len (l : List Int) (s : StepD) : (specK l s).1.length ≤ l.length + 1 := by
  unfold specK
  by_cases h0 : s.what = 0
  · simp [h0]
  · by_cases h1 : s.what = 1
    · simp [h1]; omega
    · by_cases h2 : s.what = 2
      · simp [h2]
      · by_cases h3 : s.what = 3
        · simp [h3]
        · simp [h0, h1, h2, h3]

set_option maxHeartbeats 4000000 in
set_option maxRecDepth 100000 in
theorem fnStack_some (ad : Addr) (k c : Nat) (S : List StepD) (w : World) (hs : StepsIn w (fun _ => True) (some ad) k S) (hk : k ≤ maxLen) (hkc : k ≤ c) (hcm : c ≤ maxLen) (hfit : fitsS k S = true) (h300 : k ≤ 300) :
    Calls Try.prog 5 #[.slice (some ad) k c] w fun e w' => e = .returned (.bool true) ∧ Below w.heap.size w w' := by
  have HS := hide hs.old
  have hcm2 := hcm
  unfold maxLen at hcm2
  obtain ⟨i0, hinf, hz0, hz1, hz2⟩ := info_parts info31
  have hfits := fits4_any _ (some ad) k c S w hs hk
  rw [hfit] at hfits
  clear hs hfit hk hcm
  go_enter Try.func5, Try.ntmps5
  go_wp2_with fail
  refine hfits.mono ?_
  clear hfits
  rintro e w1 ⟨rfl, hb1⟩
  have HB1 := hide hb1
  have hs1 := hb1.size
  clear hb1
  go_wp2
  go_loopw [3, 4, 19] (fun v3 v4 i wr => ∃ (j : Nat) (LA : Option Addr) (ln lc : Nat) (P : List (AnsD × Value)), j ≤ k ∧ ln ≤ j ∧ i = .int .i64 j ∧ v3 = .slice LA ln lc ∧ Hid (SliceIs wr (Row3 wr) LA ln lc (stF specK [] (S.take j))) ∧ LawI specK goodK [] S w wr j v4 P) (fun _ _ i _ => k - (intOf i).toNat)
  case atStart => exact ⟨0, none, 0, 0, [], Nat.zero_le _, Nat.zero_le _, rfl, rfl, SliceIs.none_, lawI_start HB1.out⟩
  case round =>
    obtain ⟨j, LA, ln, lc, P, hj, hlnj, rfl, rfl, HSL0, hI⟩ := hrel
    have HI := hide hI
    have hwr := hI.bel.size
    clear hI
    have hsr := HS.out.keep HI.out.bel.size (fun p hp _ => HI.out.bel.cell hp)
    have HSR := hide hsr
    clear hsr
    by_cases hlt : j < k
    · obtain ⟨ad', s, SA, sc, he, hx, hst⟩ := HSR.out.2 j hlt
      injection he with he
      subst he
      have HX := hide hx
      have HSL := hide hst.sl
      obtain ⟨c0, c1, c2, c3, c4, c5, c6, c7⟩ := And.intro hst.c0 (And.intro hst.c1 (And.intro hst.c2 (And.intro hst.c3 (And.intro hst.c4 (And.intro hst.c5 (And.intro hst.c6 hst.c7))))))
      clear hx hst
      go_wp2_with fail
      have hstep := step_any s SA s.list.length sc
      unfold StepD.cells at hstep
      refine (hstep _).mono ?_
      clear hstep
      rintro e w2 ⟨rfl, hb2⟩
      have hbx : Below wr.heap.size wr (wr.alloc (.cells (s.cells (.slice SA s.list.length sc)) 29)) := (Below.refl _ _).alloc (Nat.le_refl _) _
      unfold StepD.cells at hbx
      have HB2 : Hid (Below wr.heap.size wr w2) := hbx.trans (hb2.mono (by simp))
      have hs2 := HB2.out.size
      clear hb2 hbx c0 c1 c2 c3 c4 c5 c6 c7
      go_wp2_with fail
      have hsp := sstack_any LA ln lc (stF specK [] (S.take j)) s SA sc w2 (HSL0.out.rowBelow HB2.out) (by omega)
      unfold StepD.cells at hsp
      refine hsp.mono ?_
      clear hsp
      rintro e w3 ⟨NA, nc, rfl, hsl3, hb3⟩
      have HSL3 := hide hsl3
      have HB3 : Hid (Below wr.heap.size wr w3) := HB2.out.trans (hb3.mono hs2)
      have hs3 := HB3.out.size
      have HLEN : Hid ((stF specK [] (S.take j)).length = ln) := HSL0.out.len
      clear hsl3 hb3
      generalize hsq : specSt (stF specK [] (S.take j)) s = r at *
      have HSQ := hide hsq
      clear hsq
      obtain ⟨l', a, fits⟩ := r
      simp only at HSL3 HSQ ⊢
      cases fits
      · unfold AnsD.cells
        have hbx2 : ∀ cs, Below wr.heap.size wr (w3.alloc (.cells cs 31)) := fun cs => HB3.out.alloc hs3 _
        have LWX : Hid (∀ cs, LawW specK goodK [] S w (w3.alloc (.cells cs 31)) j u4 P) := fun cs => HI.out.toLawW.below (hbx2 cs)
        have HSX : Hid (∀ cs, StepsIn (w3.alloc (.cells cs 31)) (fun _ => True) (some ad) k S) := fun cs => (HSR.out.more (K' := fun _ => True) (fun _ _ => trivial)).keep (hbx2 cs).size (fun p hp _ => (hbx2 cs).cell hp)
        clear hbx2
        obtain ⟨W, hWW⟩ : ∃ W, w3.alloc (.cells #[.int .i64 a.n, .bool a.ok, .slice none 0 0, .bool a.panicked] 31) = W := ⟨_, rfl⟩
        have LWW : Hid (LawW specK goodK [] S w W j u4 P) := by rw [← hWW]; exact LWX.out _
        have HSW : Hid (StepsIn W (fun _ => True) (some ad) k S) := by rw [← hWW]; exact HSX.out _
        have HWW := hide hWW
        clear hWW
        have hpk := hj
        generalize j = pl at *
        have hsz : w.heap.size ≤ W.heap.size := LWW.out.bel.size
        obtain ⟨WA, wc, rfl, hPm, hans⟩ := LWW.out.want.ansIn
        have HANS := hide hans
        have HPL := hide (show P.length = pl from LWW.out.len)
        clear hans
        have hplk : pl ≤ k := hpk
        generalize hpl : P.length = pp at *
        have HPP := hide hpl
        have hplj : pp = pl := HPL.out
        subst hplj
        clear hpl
        go_wp2_with fail
        rw [HWW.out]
        have hq := queue_walk (mach2 W.heap.size W.heap.size (W.heap.size + 3) (W.heap.size + 4) (W.heap.size + 5) (W.heap.size + 6)) (mach2_ok _ _ _ _ _ _) [] 2 (some ad) pp c (S.take pp) W rfl rfl rfl (fun W2 hw => mach2_inv _ W2 hw) (HSW.out.take (by omega)) (by omega) (Mach.good_eq _ _ _ LWW.out.good)
        rw [Mach.outs_eq, show outF (mach2 W.heap.size W.heap.size (W.heap.size + 3) (W.heap.size + 4) (W.heap.size + 5) (W.heap.size + 6)).stp [] (S.take pp) = P.map (·.1) from LWW.out.eq.symm] at hq
        refine hq.mono ?_
        clear hq
        rintro e w2 ⟨RA, rc, rfl, hm2, hans2, hbl2⟩
        have HA2 := hide hans2
        have HB9 := hide hbl2
        have hsz2 := hbl2.size
        have hPl2 : (P.map (·.1)).length = pp := by rw [List.length_map]; exact HPP.out
        rw [hPl2] at HA2 hm2 ⊢
        clear hans2 hbl2
        go_wp2_with fail
        refine (alike_eq RA WA pp rc wc (P.map (·.1)) w2 HA2.out (HANS.out.below HB9.out) hm2).mono ?_
        rintro e w9 ⟨rfl, hb3⟩
        have HB10 := hide hb3
        have hsz3 := hb3.size
        clear hb3
        go_wp2_with fail
        refine (works_any w9).mono ?_
        rintro e w10 ⟨rfl, hb4⟩
        have HB11 := hide hb4
        clear hb4
        go_wp2
        go_ret
        exact ⟨rfl, LWW.out.bel.trans ((HB9.out.mono hsz).trans ((HB10.out.mono (by omega)).trans (HB11.out.mono (by omega))))⟩
      · obtain ⟨hal, h06, h66, hcase⟩ := specSt_some HSQ.out
        have HAL := hide hal
        have HCS := hide hcase
        have HG : Hid (goodK (stF specK [] (S.take j)) s) := ⟨h06, h66, by have := HLEN.out; omega⟩
        obtain ⟨m, hm⟩ : ∃ m, m = P.length := ⟨_, rfl⟩
        have HM := hide hm
        have hmj : m = j := by rw [hm]; exact HI.out.len
        have hown := (own_chg HI.out.want.own (Chg.ofBelow HB3.out (fun _ => False)) (fun _ _ h => h))
        rw [← hm] at hown
        have hts : S.take (j + 1) = S.take j ++ [s] := by rw [List.take_add_one, HX.out]; rfl
        have HTS := hide hts
        clear hm hal hcase h06 h66 hts
        unfold AnsD.cells
        cases hpn : a.panicked
        all_goals
          have HPN := hide hpn
          clear hpn
        · go_wp2_with (at_builtin; go_must (refine wpList_append_ans rfl _ _ 26 rfl 31 i0 _ Try.underlying26 hinf hz0 hz1 hz2 rfl w3 w.heap.size u4 m _ hown a.n a.ok none 0 0 false rfl rfl (by omega) (by omega) ?_); intro v' w6 hown' hc6 hat hb6; have hk3 : w6.cell? ⟨w3.heap.size, 3, none⟩ = some (.bool false) := (by rw [hb6.cell]; rfl); have HOWN6 := hide hown'; have HC6 := hide hc6; clear hown' hc6 hat hb6)
          go_roundw
          case measure => simp [intOf]; omega
          case rel =>
            have hown2 := HOWN6.out
            rw [HM.out, ← HPN.out] at hown2
            have hst9 : specK (stF specK [] (S.take j)) s = (l', some a) := by
              rcases HCS.out with h | h
              · exact h.2
              · exact absurd HPN.out (by rw [h.1]; decide)
            have hl9 : l'.length ≤ j + 1 := by
              have h1 := specK_len (stF specK [] (S.take j)) s
              rw [hst9] at h1
              have h2 := HLEN.out
              have h3 : l'.length ≤ (stF specK [] (S.take j)).length + 1 := h1
              omega
            have h31 : ∀ i cs, Blk w3 i 3 cs → ¬ u4.ownBlock = some i := fun i cs hbk e => by
              obtain ⟨cs', hb'⟩ := own_blk hown e
              exact hbk.ne_ hb' (by decide) rfl
            refine ⟨j + 1, NA, l'.length, nc, P ++ [(a, .slice none 0 0)], by omega, hl9, by go_num, rfl, ?_, ?_⟩
            · show SliceIs _ _ _ _ _ _
              rw [HTS.out, stF_snoc, hst9]
              exact HSL3.out.row HC6.out h31
            · have := HI.out.step (a := a) (LA := none) (lc := 0) HTS.out (by rw [hst9]) HG.out HB3.out (by rw [HAL.out]; exact SliceIs.none_) (by rw [HAL.out]; exact hown2) HC6.out
              rw [HAL.out] at this
              exact this
        · have hst9 : a = panAns ∧ (specK (stF specK [] (S.take j)) s).2 = none := by
            rcases HCS.out with h | h
            · exact absurd HPN.out (by rw [h.1]; decide)
            · exact h
          have HST9 := hide hst9
          have HOW := hide hown
          have hpk : j + 1 ≤ k := by omega
          clear hst9
          go_wp2_with
            (at_builtin
             go_must (refine wpList_append_ans rfl _ _ 26 rfl 31 i0 _ Try.underlying26 hinf hz0 hz1 hz2 rfl w3 w.heap.size u4 m _ hown a.n a.ok none 0 0 true rfl rfl (by omega) (by omega) ?_)
             intro v' W hown' hc6 hat hb6
             have hk3 : W.cell? ⟨w3.heap.size, 3, none⟩ = some (.bool true) := (by rw [hb6.cell]; rfl)
             have HSW : Hid (StepsIn W (fun _ => True) (some ad) k S) := (by
               have hb9 : Below w.heap.size w3 W := hc6.below (Nat.le_trans hwr hs3) (fun i hi => (HOW.out.lt i hi).1)
               exact HS.out.old.more (fun _ _ => trivial) |>.keep (Nat.le_trans hwr (Nat.le_trans hs3 hc6.size)) (fun p hp _ => (hb9.cell hp).trans ((HI.out.bel.trans (HB3.out.mono hwr)).cell hp)))
             have LWW : Hid (LawW specK goodK [] S w W (j + 1) v' (P ++ [(a, .slice none 0 0)])) := (by
               have h2 := hown'
               rw [HM.out, ← HPN.out] at h2
               have h3 := HI.out.stepW (a := a) (LA := none) (lc := 0) HTS.out (by rw [HST9.out.2, HST9.out.1]; rfl) HG.out HB3.out (by rw [HAL.out]; exact SliceIs.none_) (by rw [HAL.out]; exact h2) hc6
               rw [HAL.out] at h3
               exact h3)
             clear hown' hc6 hat hb6
             generalize P ++ [(a, Value.slice none 0 0)] = P at *
             generalize j + 1 = pl at *
             have hsz : w.heap.size ≤ W.heap.size := LWW.out.bel.size
             obtain ⟨WA, wc, rfl, hPm, hans⟩ := LWW.out.want.ansIn
             have HANS := hide hans
             have HPL := hide (show P.length = pl from LWW.out.len)
             clear hans
             have hplk : pl ≤ k := hpk
             generalize hpl : P.length = pp at *
             have HPP := hide hpl
             have hplj : pp = pl := HPL.out
             subst hplj
             clear hpl
             skip)
          have hq := queue_walk (mach2 W.heap.size W.heap.size (W.heap.size + 3) (W.heap.size + 4) (W.heap.size + 5) (W.heap.size + 6)) (mach2_ok _ _ _ _ _ _) [] 2 (some ad) pp c (S.take pp) W rfl rfl rfl (fun W2 hw => mach2_inv _ W2 hw) (HSW.out.take (by omega)) (by omega) (Mach.good_eq _ _ _ LWW.out.good)
          rw [Mach.outs_eq, show outF (mach2 W.heap.size W.heap.size (W.heap.size + 3) (W.heap.size + 4) (W.heap.size + 5) (W.heap.size + 6)).stp [] (S.take pp) = P.map (·.1) from LWW.out.eq.symm] at hq
          refine hq.mono ?_
          clear hq
          rintro e w2 ⟨RA, rc, rfl, hm2, hans2, hbl2⟩
          have HA2 := hide hans2
          have HB9 := hide hbl2
          have hsz2 := hbl2.size
          have hPl2 : (P.map (·.1)).length = pp := by rw [List.length_map]; exact HPP.out
          rw [hPl2] at HA2 hm2 ⊢
          clear hans2 hbl2
          go_wp2_with fail
          refine (alike_eq RA WA pp rc wc (P.map (·.1)) w2 HA2.out (HANS.out.below HB9.out) hm2).mono ?_
          rintro e w9 ⟨rfl, hb3⟩
          have HB10 := hide hb3
          have hsz3 := hb3.size
          clear hb3
          go_wp2_with fail
          refine (works_any w9).mono ?_
          rintro e w10 ⟨rfl, hb4⟩
          have HB11 := hide hb4
          clear hb4
          go_wp2
          go_ret
          exact ⟨rfl, LWW.out.bel.trans ((HB9.out.mono hsz).trans ((HB10.out.mono (by omega)).trans (HB11.out.mono (by omega))))⟩
    · have LWW : Hid (LawW specK goodK [] S w wr j u4 P) := HI.out.toLawW
      have HSW : Hid (StepsIn wr (fun _ => True) (some ad) k S) := HSR.out.more (K' := fun _ => True) (fun _ _ => trivial)
      have hpk := hj
      generalize wr = W at *
      generalize j = pl at *
      have hsz : w.heap.size ≤ W.heap.size := LWW.out.bel.size
      obtain ⟨WA, wc, rfl, hPm, hans⟩ := LWW.out.want.ansIn
      have HANS := hide hans
      have HPL := hide (show P.length = pl from LWW.out.len)
      clear hans
      have hplk : pl ≤ k := hpk
      generalize hpl : P.length = pp at *
      have HPP := hide hpl
      have hplj : pp = pl := HPL.out
      subst hplj
      clear hpl
      go_wp2_with fail
      have hq := queue_walk (mach2 W.heap.size W.heap.size (W.heap.size + 3) (W.heap.size + 4) (W.heap.size + 5) (W.heap.size + 6)) (mach2_ok _ _ _ _ _ _) [] 2 (some ad) pp c (S.take pp) W rfl rfl rfl (fun W2 hw => mach2_inv _ W2 hw) (HSW.out.take (by omega)) (by omega) (Mach.good_eq _ _ _ LWW.out.good)
      rw [Mach.outs_eq, show outF (mach2 W.heap.size W.heap.size (W.heap.size + 3) (W.heap.size + 4) (W.heap.size + 5) (W.heap.size + 6)).stp [] (S.take pp) = P.map (·.1) from LWW.out.eq.symm] at hq
      refine hq.mono ?_
      clear hq
      rintro e w2 ⟨RA, rc, rfl, hm2, hans2, hbl2⟩
      have HA2 := hide hans2
      have HB9 := hide hbl2
      have hsz2 := hbl2.size
      have hPl2 : (P.map (·.1)).length = pp := by rw [List.length_map]; exact HPP.out
      rw [hPl2] at HA2 hm2 ⊢
      clear hans2 hbl2
      go_wp2_with fail
      refine (alike_eq RA WA pp rc wc (P.map (·.1)) w2 HA2.out (HANS.out.below HB9.out) hm2).mono ?_
      rintro e w9 ⟨rfl, hb3⟩
      have HB10 := hide hb3
      have hsz3 := hb3.size
      clear hb3
      go_wp2_with fail
      refine (works_any w9).mono ?_
      rintro e w10 ⟨rfl, hb4⟩
      have HB11 := hide hb4
      clear hb4
      go_wp2
      go_ret
      exact ⟨rfl, LWW.out.bel.trans ((HB9.out.mono hsz).trans ((HB10.out.mono (by omega)).trans (HB11.out.mono (by omega))))⟩


set_option maxHeartbeats 1000000 in
set_option maxRecDepth 100000 in
theorem fnStack_none (w : World) : Calls Try.prog 5 #[.slice none 0 0] w fun e w' => e = .returned (.bool true) ∧ Below w.heap.size w w' := by
  have hs : ∀ W, StepsIn W (fun _ => True) none 0 [] := fun W => ⟨rfl, fun i hi => by omega⟩
  have hfits := fits4_any _ none 0 0 [] w (hs w) (by simp [maxLen])
  have hf : fitsS 0 [] = true := by decide
  rw [hf] at hfits
  clear hf
  go_enter Try.func5, Try.ntmps5
  go_wp2_with fail
  refine hfits.mono ?_
  clear hfits
  rintro e w1 ⟨rfl, hb1⟩
  have HB1 := hide hb1
  have hs1 := hb1.size
  clear hb1
  go_wp2
  refine wp_loop_rounds 1 ?_
  rw [rounds_succ]
  go_wp2_with fail
  have hq := queue_walk (mach2 w1.heap.size w1.heap.size (w1.heap.size + 3) (w1.heap.size + 4) (w1.heap.size + 5) (w1.heap.size + 6)) (mach2_ok _ _ _ _ _ _) [] 2 none 0 0 [] w1 rfl rfl rfl (fun W2 hw => mach2_inv _ W2 hw) (hs w1) (by omega) trivial
  refine hq.mono ?_
  clear hq
  rintro e w2 ⟨RA, rc, rfl, hm2, hans2, hbl2⟩
  have HB9 := hide hbl2
  have hsz2 := hbl2.size
  have HA2 : Hid (AnsIn w2 RA 0 []) := hans2
  clear hans2 hbl2
  show (match (Ending.returned (.slice RA 0 rc)), w2 with | _, _ => _)
  go_wp2_with fail
  refine (alike_eq RA none 0 rc 0 [] w2 HA2.out ⟨rfl, fun i hi => by omega⟩ (by simp [maxLen])).mono ?_
  rintro e w9 ⟨rfl, hb3⟩
  have HB10 := hide hb3
  have hsz3 := hb3.size
  clear hb3
  go_wp2_with fail
  refine (works_any w9).mono ?_
  rintro e w10 ⟨rfl, hb4⟩
  have HB11 := hide hb4
  clear hb4
  go_wp2
  go_ret
  exact ⟨rfl, HB1.out.trans ((HB9.out.mono hs1).trans ((HB10.out.mono (by omega)).trans (HB11.out.mono (by omega))))⟩

set_option maxHeartbeats 1000000 in
theorem fnStack_any (A : Option Addr) (k c : Nat) (S : List StepD) (w : World) (hs : StepsIn w (fun _ => True) A k S) (hk : k ≤ maxLen) (hkc : k ≤ c) (hcm : c ≤ maxLen) (hnil : A = none → c = 0) :
    Calls Try.prog 5 #[.slice A k c] w fun e w' => e = .returned (.bool true) ∧ Below w.heap.size w w' := by
  by_cases hfit : fitsS k S = true
  · by_cases h3 : 300 < k
    · have hfits := fits4_any _ A k c S w hs hk
      rw [hfit] at hfits
      have hk2 := hk
      unfold maxLen at hk2
      clear hs hfit
      go_enter Try.func5, Try.ntmps5
      go_wp2_with fail
      refine hfits.mono ?_
      rintro e w1 ⟨rfl, hb1⟩
      have HB1 := hide hb1
      have hs1 := hb1.size
      clear hb1 hfits
      go_wp2_with fail
      refine (works_any w1).mono ?_
      rintro e w2 ⟨rfl, hb2⟩
      have HB2 := hide hb2
      clear hb2
      go_wp2
      go_ret
      exact ⟨rfl, HB1.out.trans (HB2.out.mono hs1)⟩
    · cases A with
      | none =>
        have hc := hnil rfl
        subst hc
        have hk0 : k = 0 := by omega
        subst hk0
        exact fnStack_none w
      | some ad => exact fnStack_some ad k c S w hs hk hkc hcm hfit (by omega)
  · have hfit' : fitsS k S = false := by simpa using hfit
    have hfits := fits4_any _ A k c S w hs hk
    rw [hfit'] at hfits
    have hk2 := hk
    unfold maxLen at hk2
    clear hfit hfit' hs
    go_enter Try.func5, Try.ntmps5
    go_wp2_with fail
    refine hfits.mono ?_
    rintro e w1 ⟨rfl, hb1⟩
    have HB1 := hide hb1
    clear hb1 hfits
    go_wp2_with fail
    go_ret
    exact ⟨rfl, HB1.out⟩
end Go.Proofs.Ytammpllfmbmdmaa
