/- The walk of the law FnGroups. Printed by gen_fg.py. -/
import Derived.Test.YtammpllfmbmdmaaSg3
import Derived.Test.YtammpllfmbmdmaaSg4
namespace Go.Proofs.Ytammpllfmbmdmaa
open Go.RowKit

theorem mach3_inv (s : Nat) (W : World) (h : QW s 3 W) : ∃ F, (mach3 s s (s + 3) (s + 4) (s + 5) (s + 6)).Inv W [] F := by
  refine ⟨fun i => i = s ∨ i = s + 6, h.k, ⟨_, [], ⟨⟨h.gv, World.ownsRow_nil _ _ _ _⟩, rfl, fun i u l hu => by simp at hu, fun i j u u' g hu => by simp at hu⟩, (fun g hg => by cases hg), (fun u hu => by cases hu)⟩, Or.inl rfl, Or.inr rfl, fun i hi => ?_⟩
  have := h.size
  constructor
  · show s ≤ i
    rcases hi with rfl | rfl <;> omega
  · rcases hi with rfl | rfl <;> omega

instance (L : List (List Int)) (s : StepD) : Decidable (badG L s) := by unfold badG; infer_instance

noncomputable def specGp (L : List (List Int)) (s : StepD) : List (List Int) × AnsD × Bool := if badG L s then (L, panAns, true) else specGr L s

theorem sgroups_any (w0 : World) (A : Option Addr) (n c : Nat) (us : List Value) (L : List (List Int)) (s : StepD) (LA : Option Addr) (lc : Nat) (w : World) (h : RowsIs w0 w A n c us L) (hn : n ≤ 549755813888) (hl : ∀ l ∈ L, l.length ≤ 549755813888) (hw0 : w0.heap.size ≤ w.heap.size) (hs : SliceIs w (OldRow w0 w) LA s.list.length lc s.list) :
    Calls Try.prog 12 #[.slice A n c, .agg (s.cells (.slice LA s.list.length lc))] w (SgOut w0 (specGp L s) w) := by
  have hLn := h.lenL
  unfold specGp
  by_cases hb : badG L s
  · rw [if_pos hb]
    rcases hb with ⟨rfl, hw⟩ | ⟨hw, hl0⟩
    · have hn0 : n = 0 := by simpa using hLn.symm
      subst hn0
      exact sgroups_nil w0 A c us [] s LA lc w h hw
    · rcases n with _ | k
      · have : L = [] := List.eq_nil_of_length_eq_zero hLn
        subst this
        simp at hl0
      · exact sgroups_1e w0 A k c us L s LA lc w h (by omega) hl0 hw
  · rw [if_neg hb]
    by_cases g3 : s.what = 3
    · exact sgroups_3 w0 A n c us L s LA lc w h hn g3
    · by_cases g4 : s.what = 4
      · exact sgroups_4 w0 A n c us L s LA lc w h hn hw0 hs g4
      · by_cases ho : s.what = 0 ∨ s.what = 1 ∨ s.what = 5 ∨ s.what = 6
        · rcases List.eq_nil_or_concat L with rfl | ⟨L0, l, rfl⟩
          · exact absurd (Or.inl ⟨rfl, ho⟩) hb
          · rw [List.concat_eq_append] at *
            obtain ⟨k, rfl⟩ : ∃ k, n = k + 1 := ⟨L0.length, by rw [← hLn]; simp⟩
            rcases ho with g | g | g | g
            · exact sgroups_0 w0 A k c us L0 l s LA lc w h (by omega) (hl l (by simp)) hw0 g
            · rcases List.eq_nil_or_concat l with rfl | ⟨l1, x, rfl⟩
              · exact absurd (Or.inr ⟨g, by simp⟩) hb
              · rw [List.concat_eq_append] at *
                exact sgroups_1 w0 A k c us L0 l1 x s LA lc w h (by omega) hw0 g
            · exact sgroups_5 w0 A k c us _ s LA lc w h (by omega) hw0 g
            · exact sgroups_6 w0 A k c us _ s LA lc w h (by omega) hw0 g
        · exact sgroups_e w0 A n c us L s LA lc w h hn (fun e => ho (Or.inl e)) (fun e => ho (Or.inr (Or.inl e))) g3 g4 (fun e => ho (Or.inr (Or.inr (Or.inl e)))) (fun e => ho (Or.inr (Or.inr (Or.inr e))))

/-- What spec.Groups says of a step that it takes. -/
theorem specGp_some {L L' : List (List Int)} {s : StepD} {a : AnsD} (h : specGp L s = (L', a, true)) : 0 ≤ s.what ∧ s.what ≤ 6 ∧ ((a.panicked = false ∧ specG L s = (L', some a)) ∨ (a = panAns ∧ (specG L s).2 = none)) := by
  unfold specGp at h
  by_cases hb : badG L s
  · rw [if_pos hb] at h
    injection h with h1 h2
    injection h2 with h2 _
    subst h2
    rcases hb with ⟨rfl, hw⟩ | ⟨hw, hl0⟩
    · refine ⟨by omega, by omega, Or.inr ⟨rfl, ?_⟩⟩
      rcases hw with hw | hw | hw | hw <;> simp [specG, hw]
    · exact ⟨by omega, by omega, Or.inr ⟨rfl, by simp [specG, hw, hl0]⟩⟩
  · rw [if_neg hb] at h
    by_cases g2 : s.what = 2
    · simp [specGr, g2] at h
      obtain ⟨rfl, rfl⟩ := h
      exact ⟨by omega, by omega, Or.inl ⟨rfl, by simp [specG, g2]⟩⟩
    · by_cases g3 : s.what = 3
      · simp [specGr, g3] at h
        obtain ⟨rfl, rfl⟩ := h
        exact ⟨by omega, by omega, Or.inl ⟨rfl, by simp [specG, g3]⟩⟩
      · by_cases g4 : s.what = 4
        · simp [specGr, g4] at h
          obtain ⟨rfl, rfl⟩ := h
          exact ⟨by omega, by omega, Or.inl ⟨rfl, by simp [specG, g4]⟩⟩
        · by_cases ho : s.what = 0 ∨ s.what = 1 ∨ s.what = 5 ∨ s.what = 6
          · rcases List.eq_nil_or_concat L with rfl | ⟨L0, l, rfl⟩
            · exact absurd (Or.inl ⟨rfl, ho⟩) hb
            · rw [List.concat_eq_append] at *
              rcases ho with g | g | g | g
              · simp [specGr, g] at h
                obtain ⟨rfl, rfl⟩ := h
                exact ⟨by omega, by omega, Or.inl ⟨rfl, by simp [specG, g]⟩⟩
              · have hl : l ≠ [] := fun e => hb (Or.inr ⟨g, by rw [e]; simp⟩)
                simp [specGr, g] at h
                obtain ⟨rfl, rfl⟩ := h
                exact ⟨by omega, by omega, Or.inl ⟨rfl, by simp [specG, g, hl]⟩⟩
              · simp [specGr, g] at h
                obtain ⟨rfl, rfl⟩ := h
                exact ⟨by omega, by omega, Or.inl ⟨rfl, by simp [specG, g]⟩⟩
              · simp [specGr, g] at h
                obtain ⟨rfl, rfl⟩ := h
                exact ⟨by omega, by omega, Or.inl ⟨rfl, by simp [specG, g]⟩⟩
          · have g0 : s.what ≠ 0 := fun e => ho (Or.inl e)
            have g1 : s.what ≠ 1 := fun e => ho (Or.inr (Or.inl e))
            have g5 : s.what ≠ 5 := fun e => ho (Or.inr (Or.inr (Or.inl e)))
            have g6 : s.what ≠ 6 := fun e => ho (Or.inr (Or.inr (Or.inr e)))
            simp [specGr, g0, g1, g2, g3, g4, g5, g6] at h

/-- How far lists grow. -/
def smallG (j : Nat) (L : List (List Int)) : Prop := L.length ≤ j ∧ ∀ l ∈ L, l.length ≤ 2147483647 + j
theorem specG_small {j : Nat} {L : List (List Int)} {s : StepD} (h : smallG j L) (hs : s.list.length ≤ 2147483647) : smallG (j + 1) (specG L s).1 := by
  obtain ⟨h1, h2⟩ := h
  have hd : ∀ l ∈ L.dropLast, l.length ≤ 2147483647 + (j + 1) := fun l hl => by have := h2 l (List.dropLast_subset _ hl); omega
  have hL : smallG (j + 1) L := ⟨by omega, fun l hl => by have := h2 l hl; omega⟩
  have hdl : L.dropLast.length ≤ j := by rw [List.length_dropLast]; omega
  unfold specG
  by_cases g0 : s.what = 0
  · rw [if_pos g0]
    cases hg : L.getLast? with
    | none => exact hL
    | some l =>
      have hl := h2 l (List.mem_of_getLast? hg)
      refine ⟨by simp; omega, fun x hx => ?_⟩
      rcases List.mem_append.1 hx with hx | hx
      · exact hd x hx
      · rw [List.mem_singleton.1 hx]; simp; omega
  · rw [if_neg g0]
    by_cases g1 : s.what = 1
    · rw [if_pos g1]
      cases hg : L.getLast? with
      | none => exact hL
      | some l =>
        have hl := h2 l (List.mem_of_getLast? hg)
        simp only
        split
        · exact hL
        · refine ⟨by simp; omega, fun x hx => ?_⟩
          rcases List.mem_append.1 hx with hx | hx
          · exact hd x hx
          · rw [List.mem_singleton.1 hx]; simp; omega
    · rw [if_neg g1]
      by_cases g2 : s.what = 2
      · rw [if_pos g2]; exact hL
      · rw [if_neg g2]
        by_cases g3 : s.what = 3
        · rw [if_pos g3]; exact hL
        · rw [if_neg g3]
          by_cases g4 : s.what = 4
          · rw [if_pos g4]
            refine ⟨by simp; omega, fun x hx => ?_⟩
            rcases List.mem_append.1 hx with hx | hx
            · have := h2 x hx; omega
            · rw [List.mem_singleton.1 hx]; omega
          · rw [if_neg g4]
            by_cases g5 : s.what = 5
            · rw [if_pos g5]; exact ⟨by show L.dropLast.length ≤ _; omega, hd⟩
            · rw [if_neg g5]; exact hL

set_option maxHeartbeats 4000000 in
set_option maxRecDepth 100000 in
theorem fnGroups_some (ad : Addr) (k c : Nat) (S : List StepD) (w : World) (hs : StepsIn w (fun _ => True) (some ad) k S) (hk : k ≤ maxLen) (hkc : k ≤ c) (hcm : c ≤ maxLen) (hfit : fitsS k S = true) (h300 : k ≤ 300) :
    Calls Try.prog 3 #[.slice (some ad) k c] w fun e w' => e = .returned (.bool true) ∧ Below w.heap.size w w' := by
  have HS := hide hs.old
  have HFL : Hid (∀ s ∈ S, s.list.length ≤ 2147483647) := (of_decide_eq_true hfit).2
  have hcm2 := hcm
  unfold maxLen at hcm2
  obtain ⟨i0, hinf, hz0, hz1, hz2⟩ := info_parts info31
  have hfits := fits4_any _ (some ad) k c S w hs hk
  rw [hfit] at hfits
  clear hs hfit hk hcm
  go_enter Try.func3, Try.ntmps3
  go_wp2_with fail
  refine hfits.mono ?_
  clear hfits
  rintro e w1 ⟨rfl, hb1⟩
  have HB1 := hide hb1
  have hs1 := hb1.size
  clear hb1
  go_wp2
  go_loopw [3, 4, 19] (fun v3 v4 i wr => ∃ (j : Nat) (LA : Option Addr) (ln lc : Nat) (us : List Value) (P : List (AnsD × Value)), j ≤ k ∧ ln ≤ j ∧ i = .int .i64 j ∧ v3 = .slice LA ln lc ∧ Hid (RowsIs w wr LA ln lc us (stF specG [] (S.take j))) ∧ Hid (smallG j (stF specG [] (S.take j))) ∧ LawI specG goodG [] S w wr j v4 P) (fun _ _ i _ => k - (intOf i).toNat)
  case atStart => exact ⟨0, none, 0, 0, [], [], Nat.zero_le _, Nat.zero_le _, rfl, rfl, RowsIs.nil, ⟨Nat.zero_le _, fun l hl => by cases hl⟩, lawI_start HB1.out⟩
  case round =>
    obtain ⟨j, LA, ln, lc, us, P, hj, hlnj, rfl, rfl, HSL0, HSM, hI⟩ := hrel
    have HI := hide hI
    have hwr := hI.bel.size
    clear hI
    have hsr := HS.out.keep HI.out.bel.size (fun p hp _ => HI.out.bel.cell hp)
    have HSR := hide hsr
    clear hsr
    by_cases hlt : j < k
    · obtain ⟨ad', s, SA, sc, he, hx, hst⟩ := HSR.out.2 j hlt
      injection he with he
      subst he
      have HX := hide hx
      have HSL := hide hst.sl
      obtain ⟨c0, c1, c2, c3, c4, c5, c6, c7⟩ := And.intro hst.c0 (And.intro hst.c1 (And.intro hst.c2 (And.intro hst.c3 (And.intro hst.c4 (And.intro hst.c5 (And.intro hst.c6 hst.c7))))))
      clear hx hst
      go_wp2_with fail
      have hstep := step_any s SA s.list.length sc
      unfold StepD.cells at hstep
      refine (hstep _).mono ?_
      clear hstep
      rintro e w2 ⟨rfl, hb2⟩
      have hbx : Below wr.heap.size wr (wr.alloc (.cells (s.cells (.slice SA s.list.length sc)) 29)) := (Below.refl _ _).alloc (Nat.le_refl _) _
      unfold StepD.cells at hbx
      have HB2 : Hid (Below wr.heap.size wr w2) := hbx.trans (hb2.mono (by simp))
      have hs2 := HB2.out.size
      clear hb2 hbx c0 c1 c2 c3 c4 c5 c6 c7
      go_wp2_with fail
      have hsp := sgroups_any w LA ln lc us (stF specG [] (S.take j)) s SA sc w2 (HSL0.out.gr (Gr.ofBelow HB2.out)) (by omega) (fun l hl => by have := HSM.out.2 l hl; omega) (by omega) ((HSL.out.below HB2.out).more (fun _ _ h => Or.inl h))
      unfold StepD.cells at hsp
      refine hsp.mono ?_
      clear hsp
      rintro e w3 ⟨NA, nc, us', RA, rc, rfl, hsl3, hra3, hb3⟩
      have HRA3 := hide hra3
      have HSL3 := hide hsl3
      have HB3 : Hid (Below wr.heap.size wr w3) := HB2.out.trans (hb3.mono hs2)
      have hs3 := HB3.out.size
      clear hsl3 hra3 hb3
      generalize hsq : specGp (stF specG [] (S.take j)) s = r at *
      have HSQ := hide hsq
      clear hsq
      obtain ⟨l', a, fits⟩ := r
      simp only at HSL3 HRA3 HSQ ⊢
      cases fits
      · unfold AnsD.cells
        have hbx2 : ∀ cs, Below wr.heap.size wr (w3.alloc (.cells cs 31)) := fun cs => HB3.out.alloc hs3 _
        have LWX : Hid (∀ cs, LawW specG goodG [] S w (w3.alloc (.cells cs 31)) j u4 P) := fun cs => HI.out.toLawW.below (hbx2 cs)
        have HSX : Hid (∀ cs, StepsIn (w3.alloc (.cells cs 31)) (fun _ => True) (some ad) k S) := fun cs => (HSR.out.more (K' := fun _ => True) (fun _ _ => trivial)).keep (hbx2 cs).size (fun p hp _ => (hbx2 cs).cell hp)
        clear hbx2
        obtain ⟨W, hWW⟩ : ∃ W, w3.alloc (.cells #[.int .i64 a.n, .bool a.ok, .slice RA a.list.length rc, .bool a.panicked] 31) = W := ⟨_, rfl⟩
        have LWW : Hid (LawW specG goodG [] S w W j u4 P) := by rw [← hWW]; exact LWX.out _
        have HSW : Hid (StepsIn W (fun _ => True) (some ad) k S) := by rw [← hWW]; exact HSX.out _
        have HWW := hide hWW
        clear hWW
        have hpk := hj
        generalize j = pl at *
        have hsz : w.heap.size ≤ W.heap.size := LWW.out.bel.size
        obtain ⟨WA, wc, rfl, hPm, hans⟩ := LWW.out.want.ansIn
        have HANS := hide hans
        have HPL := hide (show P.length = pl from LWW.out.len)
        clear hans
        have hplk : pl ≤ k := hpk
        generalize hpl : P.length = pp at *
        have HPP := hide hpl
        have hplj : pp = pl := HPL.out
        subst hplj
        clear hpl
        go_wp2_with fail
        rw [HWW.out]
        have hq := queue_walk (mach3 W.heap.size W.heap.size (W.heap.size + 3) (W.heap.size + 4) (W.heap.size + 5) (W.heap.size + 6)) (mach3_ok _ _ _ _ _ _) [] 3 (some ad) pp c (S.take pp) W rfl rfl rfl (fun W2 hw => mach3_inv _ W2 hw) (HSW.out.take (by omega)) (by omega) (Mach.good_eq _ _ _ LWW.out.good)
        rw [Mach.outs_eq, show outF (mach3 W.heap.size W.heap.size (W.heap.size + 3) (W.heap.size + 4) (W.heap.size + 5) (W.heap.size + 6)).stp [] (S.take pp) = P.map (·.1) from LWW.out.eq.symm] at hq
        refine hq.mono ?_
        clear hq
        rintro e w2 ⟨RA, rc, rfl, hm2, hans2, hbl2⟩
        have HA2 := hide hans2
        have HB9 := hide hbl2
        have hsz2 := hbl2.size
        have hPl2 : (P.map (·.1)).length = pp := by rw [List.length_map]; exact HPP.out
        rw [hPl2] at HA2 hm2 ⊢
        clear hans2 hbl2
        go_wp2_with fail
        refine (alike_eq RA WA pp rc wc (P.map (·.1)) w2 HA2.out (HANS.out.below HB9.out) hm2).mono ?_
        rintro e w9 ⟨rfl, hb3⟩
        have HB10 := hide hb3
        have hsz3 := hb3.size
        clear hb3
        go_wp2_with fail
        refine (works_any w9).mono ?_
        rintro e w10 ⟨rfl, hb4⟩
        have HB11 := hide hb4
        clear hb4
        go_wp2
        go_ret
        exact ⟨rfl, LWW.out.bel.trans ((HB9.out.mono hsz).trans ((HB10.out.mono (by omega)).trans (HB11.out.mono (by omega))))⟩
      · obtain ⟨h06, h66, hcase⟩ := specGp_some HSQ.out
        have HCS := hide hcase
        have hsm : s.list.length ≤ 2147483647 := HFL.out s (List.mem_of_getElem? HX.out)
        have HG : Hid (goodG (stF specG [] (S.take j)) s) := ⟨h06, h66, by have := HSM.out.1; omega, fun l hl => by have := HSM.out.2 l hl; omega, by omega⟩
        obtain ⟨m, hm⟩ : ∃ m, m = P.length := ⟨_, rfl⟩
        have HM := hide hm
        have hmj : m = j := by rw [hm]; exact HI.out.len
        have hown := (own_chg HI.out.want.own (Chg.ofBelow HB3.out (fun _ => False)) (fun _ _ h => h))
        rw [← hm] at hown
        have hts : S.take (j + 1) = S.take j ++ [s] := by rw [List.take_add_one, HX.out]; rfl
        have HTS := hide hts
        clear hm hcase h06 h66 hts
        unfold AnsD.cells
        cases hpn : a.panicked
        all_goals
          have HPN := hide hpn
          clear hpn
        · go_wp2_with (at_builtin; go_must (refine wpList_append_ans rfl _ _ 26 rfl 31 i0 _ Try.underlying26 hinf hz0 hz1 hz2 rfl w3 w.heap.size u4 m _ hown a.n a.ok RA a.list.length rc false rfl rfl (by omega) (by omega) ?_); intro v' w6 hown' hc6 hat hb6; have hk3 : w6.cell? ⟨w3.heap.size, 3, none⟩ = some (.bool false) := (by rw [hb6.cell]; rfl); have HOWN6 := hide hown'; have HC6 := hide hc6; clear hown' hc6 hat hb6)
          go_roundw
          case measure => simp [intOf]; omega
          case rel =>
            have hown2 := HOWN6.out
            rw [HM.out, ← HPN.out] at hown2
            have hst9 : specG (stF specG [] (S.take j)) s = (l', some a) := by
              rcases HCS.out with h | h
              · exact h.2
              · exact absurd HPN.out (by rw [h.1]; decide)
            have hl9 : smallG (j + 1) l' := by
              have h1 := specG_small HSM.out hsm
              rw [hst9] at h1
              exact h1
            have h31 : ∀ i cs, Blk w3 i 3 cs → ¬ u4.ownBlock = some i := fun i cs hbk e => by
              obtain ⟨cs', hb'⟩ := own_blk hown e
              exact hbk.ne_ hb' (by decide) rfl
            have h27 : ∀ i cs, Blk w3 i 27 cs → ¬ u4.ownBlock = some i := fun i cs hbk e => by
              obtain ⟨cs', hb'⟩ := own_blk hown e
              exact hbk.ne_ hb' (by decide) rfl
            have hold : ∀ i, i < w.heap.size → ¬ u4.ownBlock = some i := fun i hi e => by have := (hown.lt i e).1; omega
            refine ⟨j + 1, NA, l'.length, nc, us', P ++ [(a, .slice RA a.list.length rc)], by omega, hl9.1, by go_num, rfl, ?_, ?_, ?_⟩
            · show RowsIs _ _ _ _ _ _ _
              rw [HTS.out, stF_snoc, hst9]
              exact HSL3.out.chg HC6.out h27 h31 hold
            · show smallG _ _
              rw [HTS.out, stF_snoc, hst9]
              exact hl9
            · exact HI.out.step (a := a) (LA := RA) (lc := rc) HTS.out (by rw [hst9]) HG.out HB3.out HRA3.out hown2 HC6.out
        · have hst9 : a = panAns ∧ (specG (stF specG [] (S.take j)) s).2 = none := by
            rcases HCS.out with h | h
            · exact absurd HPN.out (by rw [h.1]; decide)
            · exact h
          have HST9 := hide hst9
          have HOW := hide hown
          have hpk : j + 1 ≤ k := by omega
          clear hst9
          go_wp2_with
            (at_builtin
             go_must (refine wpList_append_ans rfl _ _ 26 rfl 31 i0 _ Try.underlying26 hinf hz0 hz1 hz2 rfl w3 w.heap.size u4 m _ hown a.n a.ok RA a.list.length rc true rfl rfl (by omega) (by omega) ?_)
             intro v' W hown' hc6 hat hb6
             have hk3 : W.cell? ⟨w3.heap.size, 3, none⟩ = some (.bool true) := (by rw [hb6.cell]; rfl)
             have HSW : Hid (StepsIn W (fun _ => True) (some ad) k S) := (by
               have hb9 : Below w.heap.size w3 W := hc6.below (Nat.le_trans hwr hs3) (fun i hi => (HOW.out.lt i hi).1)
               exact HS.out.old.more (fun _ _ => trivial) |>.keep (Nat.le_trans hwr (Nat.le_trans hs3 hc6.size)) (fun p hp _ => (hb9.cell hp).trans ((HI.out.bel.trans (HB3.out.mono hwr)).cell hp)))
             have LWW : Hid (LawW specG goodG [] S w W (j + 1) v' (P ++ [(a, .slice RA a.list.length rc)])) := (by
               have h2 := hown'
               rw [HM.out, ← HPN.out] at h2
               exact HI.out.stepW (a := a) (LA := RA) (lc := rc) HTS.out (by rw [HST9.out.2, HST9.out.1]; rfl) HG.out HB3.out HRA3.out h2 hc6)
             clear hown' hc6 hat hb6
             generalize P ++ [(a, Value.slice RA a.list.length rc)] = P at *
             generalize j + 1 = pl at *
             have hsz : w.heap.size ≤ W.heap.size := LWW.out.bel.size
             obtain ⟨WA, wc, rfl, hPm, hans⟩ := LWW.out.want.ansIn
             have HANS := hide hans
             have HPL := hide (show P.length = pl from LWW.out.len)
             clear hans
             have hplk : pl ≤ k := hpk
             generalize hpl : P.length = pp at *
             have HPP := hide hpl
             have hplj : pp = pl := HPL.out
             subst hplj
             clear hpl
             skip)
          have hq := queue_walk (mach3 W.heap.size W.heap.size (W.heap.size + 3) (W.heap.size + 4) (W.heap.size + 5) (W.heap.size + 6)) (mach3_ok _ _ _ _ _ _) [] 3 (some ad) pp c (S.take pp) W rfl rfl rfl (fun W2 hw => mach3_inv _ W2 hw) (HSW.out.take (by omega)) (by omega) (Mach.good_eq _ _ _ LWW.out.good)
          rw [Mach.outs_eq, show outF (mach3 W.heap.size W.heap.size (W.heap.size + 3) (W.heap.size + 4) (W.heap.size + 5) (W.heap.size + 6)).stp [] (S.take pp) = P.map (·.1) from LWW.out.eq.symm] at hq
          refine hq.mono ?_
          clear hq
          rintro e w2 ⟨RA, rc, rfl, hm2, hans2, hbl2⟩
          have HA2 := hide hans2
          have HB9 := hide hbl2
          have hsz2 := hbl2.size
          have hPl2 : (P.map (·.1)).length = pp := by rw [List.length_map]; exact HPP.out
          rw [hPl2] at HA2 hm2 ⊢
          clear hans2 hbl2
          go_wp2_with fail
          refine (alike_eq RA WA pp rc wc (P.map (·.1)) w2 HA2.out (HANS.out.below HB9.out) hm2).mono ?_
          rintro e w9 ⟨rfl, hb3⟩
          have HB10 := hide hb3
          have hsz3 := hb3.size
          clear hb3
          go_wp2_with fail
          refine (works_any w9).mono ?_
          rintro e w10 ⟨rfl, hb4⟩
          have HB11 := hide hb4
          clear hb4
          go_wp2
          go_ret
          exact ⟨rfl, LWW.out.bel.trans ((HB9.out.mono hsz).trans ((HB10.out.mono (by omega)).trans (HB11.out.mono (by omega))))⟩
    · have LWW : Hid (LawW specG goodG [] S w wr j u4 P) := HI.out.toLawW
      have HSW : Hid (StepsIn wr (fun _ => True) (some ad) k S) := HSR.out.more (K' := fun _ => True) (fun _ _ => trivial)
      have hpk := hj
      generalize wr = W at *
      generalize j = pl at *
      have hsz : w.heap.size ≤ W.heap.size := LWW.out.bel.size
      obtain ⟨WA, wc, rfl, hPm, hans⟩ := LWW.out.want.ansIn
      have HANS := hide hans
      have HPL := hide (show P.length = pl from LWW.out.len)
      clear hans
      have hplk : pl ≤ k := hpk
      generalize hpl : P.length = pp at *
      have HPP := hide hpl
      have hplj : pp = pl := HPL.out
      subst hplj
      clear hpl
      go_wp2_with fail
      have hq := queue_walk (mach3 W.heap.size W.heap.size (W.heap.size + 3) (W.heap.size + 4) (W.heap.size + 5) (W.heap.size + 6)) (mach3_ok _ _ _ _ _ _) [] 3 (some ad) pp c (S.take pp) W rfl rfl rfl (fun W2 hw => mach3_inv _ W2 hw) (HSW.out.take (by omega)) (by omega) (Mach.good_eq _ _ _ LWW.out.good)
      rw [Mach.outs_eq, show outF (mach3 W.heap.size W.heap.size (W.heap.size + 3) (W.heap.size + 4) (W.heap.size + 5) (W.heap.size + 6)).stp [] (S.take pp) = P.map (·.1) from LWW.out.eq.symm] at hq
      refine hq.mono ?_
      clear hq
      rintro e w2 ⟨RA, rc, rfl, hm2, hans2, hbl2⟩
      have HA2 := hide hans2
      have HB9 := hide hbl2
      have hsz2 := hbl2.size
      have hPl2 : (P.map (·.1)).length = pp := by rw [List.length_map]; exact HPP.out
      rw [hPl2] at HA2 hm2 ⊢
      clear hans2 hbl2
      go_wp2_with fail
      refine (alike_eq RA WA pp rc wc (P.map (·.1)) w2 HA2.out (HANS.out.below HB9.out) hm2).mono ?_
      rintro e w9 ⟨rfl, hb3⟩
      have HB10 := hide hb3
      have hsz3 := hb3.size
      clear hb3
      go_wp2_with fail
      refine (works_any w9).mono ?_
      rintro e w10 ⟨rfl, hb4⟩
      have HB11 := hide hb4
      clear hb4
      go_wp2
      go_ret
      exact ⟨rfl, LWW.out.bel.trans ((HB9.out.mono hsz).trans ((HB10.out.mono (by omega)).trans (HB11.out.mono (by omega))))⟩


set_option maxHeartbeats 1000000 in
set_option maxRecDepth 100000 in
theorem fnGroups_none (w : World) : Calls Try.prog 3 #[.slice none 0 0] w fun e w' => e = .returned (.bool true) ∧ Below w.heap.size w w' := by
  have hs : ∀ W, StepsIn W (fun _ => True) none 0 [] := fun W => ⟨rfl, fun i hi => by omega⟩
  have hfits := fits4_any _ none 0 0 [] w (hs w) (by simp [maxLen])
  have hf : fitsS 0 [] = true := by decide
  rw [hf] at hfits
  clear hf
  go_enter Try.func3, Try.ntmps3
  go_wp2_with fail
  refine hfits.mono ?_
  clear hfits
  rintro e w1 ⟨rfl, hb1⟩
  have HB1 := hide hb1
  have hs1 := hb1.size
  clear hb1
  go_wp2
  refine wp_loop_rounds 1 ?_
  rw [rounds_succ]
  go_wp2_with fail
  have hq := queue_walk (mach3 w1.heap.size w1.heap.size (w1.heap.size + 3) (w1.heap.size + 4) (w1.heap.size + 5) (w1.heap.size + 6)) (mach3_ok _ _ _ _ _ _) [] 3 none 0 0 [] w1 rfl rfl rfl (fun W2 hw => mach3_inv _ W2 hw) (hs w1) (by omega) trivial
  refine hq.mono ?_
  clear hq
  rintro e w2 ⟨RA, rc, rfl, hm2, hans2, hbl2⟩
  have HB9 := hide hbl2
  have hsz2 := hbl2.size
  have HA2 : Hid (AnsIn w2 RA 0 []) := hans2
  clear hans2 hbl2
  show (match (Ending.returned (.slice RA 0 rc)), w2 with | _, _ => _)
  go_wp2_with fail
  refine (alike_eq RA none 0 rc 0 [] w2 HA2.out ⟨rfl, fun i hi => by omega⟩ (by simp [maxLen])).mono ?_
  rintro e w9 ⟨rfl, hb3⟩
  have HB10 := hide hb3
  have hsz3 := hb3.size
  clear hb3
  go_wp2_with fail
  refine (works_any w9).mono ?_
  rintro e w10 ⟨rfl, hb4⟩
  have HB11 := hide hb4
  clear hb4
  go_wp2
  go_ret
  exact ⟨rfl, HB1.out.trans ((HB9.out.mono hs1).trans ((HB10.out.mono (by omega)).trans (HB11.out.mono (by omega))))⟩

set_option maxHeartbeats 1000000 in
theorem fnGroups_any (A : Option Addr) (k c : Nat) (S : List StepD) (w : World) (hs : StepsIn w (fun _ => True) A k S) (hk : k ≤ maxLen) (hkc : k ≤ c) (hcm : c ≤ maxLen) (hnil : A = none → c = 0) :
    Calls Try.prog 3 #[.slice A k c] w fun e w' => e = .returned (.bool true) ∧ Below w.heap.size w w' := by
  by_cases hfit : fitsS k S = true
  · by_cases h3 : 300 < k
    · have hfits := fits4_any _ A k c S w hs hk
      rw [hfit] at hfits
      have hk2 := hk
      unfold maxLen at hk2
      clear hs hfit
      go_enter Try.func3, Try.ntmps3
      go_wp2_with fail
      refine hfits.mono ?_
      rintro e w1 ⟨rfl, hb1⟩
      have HB1 := hide hb1
      have hs1 := hb1.size
      clear hb1 hfits
      go_wp2_with fail
      refine (works_any w1).mono ?_
      rintro e w2 ⟨rfl, hb2⟩
      have HB2 := hide hb2
      clear hb2
      go_wp2
      go_ret
      exact ⟨rfl, HB1.out.trans (HB2.out.mono hs1)⟩
    · cases A with
      | none =>
        have hc := hnil rfl
        subst hc
        have hk0 : k = 0 := by omega
        subst hk0
        exact fnGroups_none w
      | some ad => exact fnGroups_some ad k c S w hs hk hkc hcm hfit (by omega)
  · have hfit' : fitsS k S = false := by simpa using hfit
    have hfits := fits4_any _ A k c S w hs hk
    rw [hfit'] at hfits
    have hk2 := hk
    unfold maxLen at hk2
    clear hfit hfit' hs
    go_enter Try.func3, Try.ntmps3
    go_wp2_with fail
    refine hfits.mono ?_
    rintro e w1 ⟨rfl, hb1⟩
    have HB1 := hide hb1
    clear hb1 hfits
    go_wp2_with fail
    go_ret
    exact ⟨rfl, HB1.out⟩
end Go.Proofs.Ytammpllfmbmdmaa
