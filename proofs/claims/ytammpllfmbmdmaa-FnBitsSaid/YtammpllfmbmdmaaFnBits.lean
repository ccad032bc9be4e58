/- The walk of the law FnBits. Printed by gen_fb.py. -/
import Derived.Test.YtammpllfmbmdmaaSb2
namespace Go.Proofs.Ytammpllfmbmdmaa
open Go.RowKit

/-- What spec.Bits says of a step that it takes. -/
theorem specB_some {l l' : List Int} {s : StepD} {a : AnsD} (h : specB l s = (l', a, true)) : a.list = [] ∧ a.panicked = false ∧ (l.length ≤ 9999 → goodB l s) ∧ stepB l s = (l', some a) ∧ l'.length ≤ l.length + 1 := by
  unfold specB at h
  by_cases h0 : s.what = 0
  · rw [if_pos h0] at h
    injection h with h1 h2
    injection h2 with h2 h3
    subst h1; subst h2
    have hb : s.bit = 0 ∨ s.bit = 1 := by simpa using h3
    exact ⟨rfl, rfl, fun hl => ⟨hl, Or.inl ⟨h0, hb⟩⟩, by simp [stepB, h0], by simp⟩
  · rw [if_neg h0] at h
    by_cases h1 : s.what = 1 ∧ (0 ≤ s.index ∧ s.index < l.length) ∧ (s.bit = 0 ∨ s.bit = 1)
    · rw [if_pos h1] at h
      injection h with e1 h2
      injection h2 with h2 h3
      subst e1; subst h2
      exact ⟨rfl, rfl, fun hl => ⟨hl, Or.inr (Or.inl ⟨Or.inl h1.1, h1.2.2, h1.2.1.1, h1.2.1.2⟩)⟩, by simp [stepB, h1.1], by simp⟩
    · rw [if_neg h1] at h
      by_cases h2 : s.what = 2 ∧ (0 ≤ s.index ∧ s.index < l.length) ∧ (s.bit = 0 ∨ s.bit = 1)
      · rw [if_pos h2] at h
        injection h with e1 h3
        injection h3 with h3 h4
        subst e1; subst h3
        exact ⟨rfl, rfl, fun hl => ⟨hl, Or.inr (Or.inl ⟨Or.inr h2.1, h2.2.2, h2.2.1.1, h2.2.1.2⟩)⟩, by simp [stepB, h2.1], by simp; omega⟩
      · rw [if_neg h2] at h
        by_cases h3 : s.what = 3 ∧ (0 ≤ s.index ∧ s.index < l.length)
        · rw [if_pos h3] at h
          injection h with e1 h4
          injection h4 with h4 h5
          subst e1; subst h4
          exact ⟨rfl, rfl, fun hl => ⟨hl, Or.inr (Or.inr (Or.inl ⟨Or.inl h3.1, h3.2.1, h3.2.2⟩))⟩, by simp [stepB, h3.1], by have := List.length_eraseIdx_le l s.index.toNat; omega⟩
        · rw [if_neg h3] at h
          by_cases h4 : s.what = 4 ∧ (0 ≤ s.index ∧ s.index < l.length)
          · rw [if_pos h4] at h
            injection h with e1 h5
            injection h5 with h5 h6
            subst e1; subst h5
            exact ⟨rfl, rfl, fun hl => ⟨hl, Or.inr (Or.inr (Or.inl ⟨Or.inr h4.1, h4.2.1, h4.2.2⟩))⟩, by simp [stepB, h4.1], by omega⟩
          · rw [if_neg h4] at h
            by_cases h5 : s.what = 5
            · rw [if_pos h5] at h
              injection h with e1 h6
              injection h6 with h6 h7
              subst e1; subst h6
              exact ⟨rfl, rfl, fun hl => ⟨hl, Or.inr (Or.inr (Or.inr h5))⟩, by simp [stepB, h5], by omega⟩
            · rw [if_neg h5] at h
              injection h with e1 h6
              injection h6 with h6 h7
              cases h7

/-- The walk of spec.Bits at every step. -/
theorem sbits_any (base : Nat) (A : Option Addr) (n c : Nat) (l : List Int) (s : StepD) (LA : Option Addr) (lc : Nat) (w : World) (h : w.ownsRow base 3 1 (.slice A n c) n (ints l)) (hB : base ≤ w.heap.size) (hn : n ≤ 10000) :
    Calls Try.prog 19 #[.slice A n c, .agg (s.cells (.slice LA s.list.length lc))] w (SbOut base (.slice A n c) (specB l s) w) := by
  by_cases h0 : s.what = 0
  · exact sbits_0 base A n c l s LA lc w h hB hn h0
  by_cases h5 : s.what = 5
  · exact sbits_5 base A n c l s LA lc w h hB hn h5
  by_cases hin : 0 ≤ s.index ∧ s.index < l.length
  · have hi : s.index = (s.index.toNat : Nat) := by omega
    have hi2 : s.index.toNat < l.length := by omega
    by_cases h3 : s.what = 3
    · exact sbits_3 base A n c l s LA lc w h hB hn h3 _ hi hi2
    by_cases h4 : s.what = 4
    · exact sbits_4 base A n c l s LA lc w h hB hn h4 _ hi hi2
    by_cases hb : s.bit = 0 ∨ s.bit = 1
    · by_cases h1 : s.what = 1
      · exact sbits_1 base A n c l s LA lc w h hB hn h1 _ hi hi2 hb
      by_cases h2 : s.what = 2
      · exact sbits_2 base A n c l s LA lc w h hB hn h2 _ hi hi2 hb
      exact sbits_left base A n c l s LA lc w h hB hn h0 h1 h2 h3 h4 h5
    · by_cases h1 : s.what = 1
      · exact sbits_left1 base A n c l s LA lc w h hB hn h1 (fun h => hb h.2)
      by_cases h2 : s.what = 2
      · exact sbits_left2 base A n c l s LA lc w h hB hn h2 (fun h => hb h.2)
      exact sbits_left base A n c l s LA lc w h hB hn h0 h1 h2 h3 h4 h5
  · by_cases h1 : s.what = 1
    · exact sbits_left1 base A n c l s LA lc w h hB hn h1 (fun h => hin h.1)
    by_cases h2 : s.what = 2
    · exact sbits_left2 base A n c l s LA lc w h hB hn h2 (fun h => hin h.1)
    by_cases h3 : s.what = 3
    · exact sbits_left3 base A n c l s LA lc w h hB hn h3 hin
    by_cases h4 : s.what = 4
    · exact sbits_left4 base A n c l s LA lc w h hB hn h4 hin
    exact sbits_left base A n c l s LA lc w h hB hn h0 h1 h2 h3 h4 h5

/-- The answers that the law expects, behind steps: no list among them. -/
structure LawB (S : List StepD) (w wr : World) (j : Nat) (v : Value) (P : List (AnsD × Value)) : Prop where
  want : OutRow wr (fun _ => False) 31 w.heap.size v P
  len : P.length = j
  eq : P.map (·.1) = outF stepB [] (S.take j)
  good : goodF stepB goodB [] (S.take j)
  bel : Below w.heap.size w wr

section
variable {S : List StepD} {w wr w3 w6 : World} {j : Nat} {v v' : Value} {P : List (AnsD × Value)} {X : Nat → Prop}
theorem lawB_start (hb : Below w.heap.size w wr) : LawB S w wr 0 (.slice none 0 0) [] :=
  { want := ⟨World.ownsRow_nil _ _ _ _, fun p hp => by cases hp⟩, len := rfl, eq := rfl, good := trivial, bel := hb }
theorem LawB.chg (h : LawB S w wr j v P) (hc : Chg X wr w3) (hX : ∀ i, X i → w.heap.size ≤ i) (hv : ∀ g, v.ownBlock = some g → ¬ X g) : LawB S w w3 j v P :=
  { want := ⟨own_chg h.want.own hc hv, fun p hp => by
      obtain ⟨LA, lc, e, hs⟩ := h.want.lists p hp
      exact ⟨LA, lc, e, hs.chg hc (fun i _ h => h.elim)⟩⟩
    len := h.len, eq := h.eq, good := h.good, bel := h.bel.trans (hc.below h.bel.size hX) }
theorem LawB.step (h : LawB S w wr j v P) {s : StepD} {a : AnsD} {l' : List Int} (ht : S.take (j + 1) = S.take j ++ [s]) (hf : stepB (stF stepB [] (S.take j)) s = (l', some a)) (hg : goodB (stF stepB [] (S.take j)) s) (hal : a.list = [])
    (hown : w6.ownsRow w.heap.size 31 4 v' (P.length + 1) (ansFlat P ++ [.int .i64 a.n, .bool a.ok, .slice none 0 0, .bool a.panicked])) (hc : Chg (fun g => v.ownBlock = some g) wr w6) :
    LawB S w w6 (j + 1) v' (P ++ [(a, .slice none 0 0)]) := by
  refine { want := ⟨by rw [ansFlat_snoc, List.length_append]; exact hown, fun p hp => ?_⟩, len := by rw [List.length_append, h.len]; rfl, eq := ?_, good := ?_, bel := h.bel.trans (hc.below h.bel.size (fun i hi => (h.want.own.lt i hi).1)) }
  · rcases List.mem_append.1 hp with hp | hp
    · obtain ⟨LA, lc, e, hs⟩ := h.want.lists p hp
      exact ⟨LA, lc, e, hs.chg hc (fun i _ h => h.elim)⟩
    · rw [List.mem_singleton.1 hp]
      exact ⟨none, 0, by rw [hal]; rfl, by rw [hal]; exact SliceIs.none_⟩
  · rw [List.map_append, h.eq, ht, outF_snoc s _ _ (okF_stepB _ _), hf]; rfl
  · rw [ht]; exact goodF_snoc s _ _ h.good (fun _ => hg)
end

def bits1 : StepD := ⟨0, 0, 0, 1, 0, 0, 0, []⟩
def bits2 : StepD := ⟨4, 0, 0, 0, 0, 0, 0, []⟩
theorem bits_steps (w : World) (g : Nat) (h : Blk w g 29 #[.int .i64 0, .int .i64 0, .int .i64 0, .int .i64 1, .int .i64 0, .int .i64 0, .int .i64 0, .slice none 0 0, .int .i64 4, .int .i64 0, .int .i64 0, .int .i64 0, .int .i64 0, .int .i64 0, .int .i64 0, .slice none 0 0]) :
    StepsIn w (fun _ => True) (some ⟨g, 0, none⟩) 2 [bits1, bits2] := by
  refine ⟨rfl, fun i hi => ?_⟩
  match i, hi with
  | 0, _ => exact ⟨_, bits1, none, 0, rfl, rfl, ⟨trivial, h.lt⟩, SliceIs.none_, by rw [add_plain, h.cell]; rfl, by rw [add_plain, h.cell]; rfl, by rw [add_plain, h.cell]; rfl, by rw [add_plain, h.cell]; rfl, by rw [add_plain, h.cell]; rfl, by rw [add_plain, h.cell]; rfl, by rw [add_plain, h.cell]; rfl, by rw [add_plain, h.cell]; rfl⟩
  | 1, _ => exact ⟨_, bits2, none, 0, rfl, rfl, ⟨trivial, h.lt⟩, SliceIs.none_, by rw [add_plain, h.cell]; rfl, by rw [add_plain, h.cell]; rfl, by rw [add_plain, h.cell]; rfl, by rw [add_plain, h.cell]; rfl, by rw [add_plain, h.cell]; rfl, by rw [add_plain, h.cell]; rfl, by rw [add_plain, h.cell]; rfl, by rw [add_plain, h.cell]; rfl⟩

def LenIs (l : List Int) (n : Nat) : Prop := l.length = n

set_option maxHeartbeats 4000000 in
set_option maxRecDepth 100000 in
theorem fnBits_some (ad : Addr) (k c : Nat) (S : List StepD) (w : World) (hs : StepsIn w (fun _ => True) (some ad) k S) (hk : k ≤ maxLen) (hkc : k ≤ c) (hcm : c ≤ maxLen) (hfit : fitsS k S = true) (h300 : k ≤ 300) :
    Calls Try.prog 7 #[.slice (some ad) k c] w fun e w' => e = .returned (.bool true) ∧ Below w.heap.size w w' := by
  have HS := hide hs.old
  have hcm2 := hcm
  unfold maxLen at hcm2
  obtain ⟨i0, hinf, hz0, hz1, hz2⟩ := info_parts info31
  have hfits := fits4_any _ (some ad) k c S w hs hk
  rw [hfit] at hfits
  clear hs hfit hk hcm
  go_enter Try.func7, Try.ntmps7
  go_wp2_with fail
  refine hfits.mono ?_
  clear hfits
  rintro e w1 ⟨rfl, hb1⟩
  have HB1 := hide hb1
  have hs1 := hb1.size
  clear hb1
  go_wp2
  go_loopw [3, 4, 25] (fun v3 v4 i wr => ∃ (j : Nat) (LA : Option Addr) (ln lc : Nat) (P : List (AnsD × Value)), j ≤ k ∧ ln ≤ j ∧ i = .int .i64 j ∧ v3 = .slice LA ln lc ∧ Hid (wr.ownsRow w.heap.size 3 1 (.slice LA ln lc) ln (ints (stF stepB [] (S.take j)))) ∧ LawB S w wr j v4 P) (fun _ _ i _ => k - (intOf i).toNat)
  case atStart => exact ⟨0, none, 0, 0, [], Nat.zero_le _, Nat.zero_le _, rfl, rfl, World.ownsRow_nil _ _ _ _, lawB_start HB1.out⟩
  case round =>
    obtain ⟨j, LA, ln, lc, P, hj, hlnj, rfl, rfl, HSL0, hI⟩ := hrel
    have HI := hide hI
    have hwr := hI.bel.size
    clear hI
    have hsr := HS.out.keep HI.out.bel.size (fun p hp _ => HI.out.bel.cell hp)
    have HSR := hide hsr
    have HLEN : Hid (LenIs (stF stepB [] (S.take j)) ln) := sb_size HSL0.out
    clear hsr
    by_cases hlt : j < k
    · obtain ⟨ad', s, SA, sc, he, hx, hst⟩ := HSR.out.2 j hlt
      injection he with he
      subst he
      have HX := hide hx
      have HSL := hide hst.sl
      obtain ⟨c0, c1, c2, c3, c4, c5, c6, c7⟩ := And.intro hst.c0 (And.intro hst.c1 (And.intro hst.c2 (And.intro hst.c3 (And.intro hst.c4 (And.intro hst.c5 (And.intro hst.c6 hst.c7))))))
      clear hx hst
      go_wp2_with fail
      have hstep := step_any s SA s.list.length sc
      unfold StepD.cells at hstep
      refine (hstep _).mono ?_
      clear hstep
      rintro e w2 ⟨rfl, hb2⟩
      have hbx : Below wr.heap.size wr (wr.alloc (.cells (s.cells (.slice SA s.list.length sc)) 29)) := (Below.refl _ _).alloc (Nat.le_refl _) _
      unfold StepD.cells at hbx
      have HB2 : Hid (Below wr.heap.size wr w2) := hbx.trans (hb2.mono (by simp))
      have hs2 := HB2.out.size
      clear hb2 hbx c0 c1 c2 c3 c4 c5 c6 c7
      have ho2 : w2.ownsRow w.heap.size 3 1 (.slice LA ln lc) ln (ints (stF stepB [] (S.take j))) := own_chg HSL0.out (Chg.ofBelow HB2.out (fun _ => False)) (fun _ _ h => h)
      go_wp2_with fail
      have hsp := sbits_any w.heap.size LA ln lc (stF stepB [] (S.take j)) s SA sc w2 ho2 (by omega) (by omega)
      unfold StepD.cells at hsp
      refine hsp.mono ?_
      clear hsp
      rintro e w3 ⟨v3, rfl, ho3, hc3⟩
      have HO3 := hide ho3
      have HC3 : Hid (Chg (fun i => (Value.slice LA ln lc).ownBlock = some i) wr w3) := (Chg.ofBelow HB2.out _).trans hc3 (fun _ _ h => h)
      obtain ⟨NA, nc, rfl, _⟩ := own_reads ho3
      have h31 : ∀ g, u4.ownBlock = some g → ¬ (Value.slice LA ln lc).ownBlock = some g := fun g hg e => by
        obtain ⟨cs, hcs⟩ := own_blk HI.out.want.own hg
        obtain ⟨cs', hcs'⟩ := own_blk HSL0.out e
        exact hcs.ne_ hcs' (by decide) rfl
      have HL3 : Hid (LawB S w w3 j u4 P) := HI.out.chg HC3.out (fun i hi => (HSL0.out.lt i hi).1) h31
      have hs3 := HC3.out.size
      clear ho3 hc3 ho2 h31
      generalize hsq : specB (stF stepB [] (S.take j)) s = r at *
      have HSQ := hide hsq
      clear hsq
      obtain ⟨l', a, fits⟩ := r
      simp only at HO3 HSQ ⊢
      cases fits
      · unfold AnsD.cells
        have hbx2 : ∀ cs, Below w3.heap.size w3 (w3.alloc (.cells cs 31)) := fun cs => (Below.refl _ _).alloc (Nat.le_refl _) _
        obtain ⟨W, hWW⟩ : ∃ W, w3.alloc (.cells #[.int .i64 a.n, .bool a.ok, .slice none 0 0, .bool a.panicked] 31) = W := ⟨_, rfl⟩
        have LWW : Hid (LawB S w W j u4 P) := by rw [← hWW]; exact HL3.out.chg (Chg.ofBelow (hbx2 _) (fun _ => False)) (fun _ h => h.elim) (fun _ _ h => h)
        have HSW : Hid (StepsIn W (fun _ => True) (some ad) k S) := (HS.out.keep LWW.out.bel.size (fun p hp _ => LWW.out.bel.cell hp)).more (fun _ _ => trivial)
        have HWW := hide hWW
        clear hWW hbx2
        have hpk := hj
        generalize j = pl at *
        have hplk : pl ≤ k := hpk
        obtain ⟨WA, wc, rfl, hPm, hans⟩ := LWW.out.want.ansIn
        have HANS := hide hans
        have HPL := hide (show P.length = pl from LWW.out.len)
        clear hans
        generalize hpl : P.length = pp at *
        have HPP := hide hpl
        have hplj : pp = pl := HPL.out
        subst hplj
        clear hpl
        have hsz : w.heap.size ≤ W.heap.size := LWW.out.bel.size
        go_wp2_with fail
        rw [HWW.out]
        have hq := bits_walk (fun _ => True) none 0 0 [] [] (some ad) pp c (S.take pp) W ⟨rfl, fun h => absurd h (by omega)⟩ (fun _ => ⟨rfl, rfl⟩) (by omega) (fun b hb => by cases hb) VecIs.nil (by simp) (HSW.out.take (by omega)) (by omega) LWW.out.good
        rw [show outF stepB [] (S.take pp) = P.map (·.1) from LWW.out.eq.symm] at hq
        refine hq.mono ?_
        clear hq
        rintro e w2 ⟨RA, rc, bv, D, rfl, hm2, hans2, hown2, _, _, _, hbl2⟩
        have HLX := HLEN.out
        unfold LenIs at HLX
        rw [HLX]
        have hPl2 : (P.map (·.1)).length = pp := by rw [List.length_map]; exact HPP.out
        rw [hPl2] at hans2 hm2 ⊢
        have HA2 := hide hans2
        have HB9 := hide hbl2
        have hsz2 := hbl2.size
        obtain ⟨BA, bc, rfl, _⟩ := own_reads hown2
        clear hans2 hbl2 hown2
        go_wp2_with fail
        generalize hW2 : w2.alloc (.cells #[.int .i64 0, .int .i64 0, .int .i64 0, .int .i64 1, .int .i64 0, .int .i64 0, .int .i64 0, .slice none 0 0, .int .i64 4, .int .i64 0, .int .i64 0, .int .i64 0, .int .i64 0, .int .i64 0, .int .i64 0, .slice none 0 0] 29) = W2
        obtain ⟨hs2, hb2⟩ : StepsIn W2 (fun _ => True) (some ⟨w2.heap.size, 0, none⟩) 2 [bits1, bits2] ∧ Below w2.heap.size w2 W2 := by
          subst hW2
          exact ⟨bits_steps _ _ (Blk.new _ _ _), (Below.refl _ _).alloc (Nat.le_refl _) _⟩
        have HB2 := hide hb2
        clear hW2 hb2
        have hq := bits_walk (fun _ => True) none 0 0 [] [] (some ⟨w2.heap.size, 0, none⟩) 2 2 [bits1, bits2] W2 ⟨rfl, fun h => absurd h (by omega)⟩ (fun _ => ⟨rfl, rfl⟩) (by omega) (fun b hb => by cases hb) VecIs.nil (by simp) hs2 (by omega) ⟨⟨by simp, Or.inl ⟨rfl, Or.inr rfl⟩⟩, fun _ => ⟨⟨by decide, Or.inr (Or.inr (Or.inl ⟨Or.inr rfl, by decide, by decide⟩))⟩, fun _ => trivial⟩⟩
        rw [show outF stepB [] [bits1, bits2] = [zeroAns, ⟨1, false, [], false⟩] from rfl] at hq
        refine hq.mono ?_
        clear hq hs2
        rintro e w4 ⟨QA, qc, bv2, D2, rfl, _, hans4, hown4, _, _, _, hbl4⟩
        obtain ⟨ad4, a4, LA4, lc4, rfl, hx4, hat4⟩ := hans4.2 1 (by decide)
        have ha4 : a4 = ⟨1, false, [], false⟩ := by simpa using hx4.symm
        have hc4 : w4.cell? ⟨ad4.block, ad4.off + 4, none⟩ = some (.int .i64 1) := by
          have := hat4.c0
          rw [ha4] at this
          exact this
        have hl4 : ad4.block < w4.heap.size := hat4.here
        have HB4 := hide (HB2.out.trans (hbl4.mono HB2.out.size))
        have hsz4 : w2.heap.size ≤ w4.heap.size := Nat.le_trans HB2.out.size hbl4.size
        obtain ⟨BA2, bc2, rfl, _⟩ := own_reads hown4
        clear hans4 hbl4 hown4 hx4 hat4 ha4
        show (match (Ending.returned (.tuple #[.slice (some ad4) 2 qc, .slice BA2 D2.length bc2, .int .i64 (stF stepB [] [bits1, bits2]).length])), w4 with | _, _ => _)
        go_wp2_with fail
        refine (alike_eq RA WA pp rc wc (P.map (·.1)) w4 (HA2.out.below HB4.out) ((HANS.out.below HB9.out).below HB4.out) hm2).mono ?_
        rintro e w9 ⟨rfl, hb3⟩
        have HB10 := hide hb3
        have hc9 : w9.cell? ⟨ad4.block, ad4.off + 4, none⟩ = some (.int .i64 1) := (hb3.cell (p := ⟨ad4.block, ad4.off + 4, none⟩) hl4).trans hc4
        clear hb3
        go_wp2
        go_ret
        exact ⟨rfl, LWW.out.bel.trans ((HB9.out.mono hsz).trans ((HB4.out.mono (by omega)).trans (HB10.out.mono (by omega))))⟩
      · obtain ⟨hal, hpn, hgd, hst9, hl9⟩ := specB_some HSQ.out
        have HAL := hide hal
        have HPN := hide hpn
        have HGD : Hid (goodB (stF stepB [] (S.take j)) s) := hgd (by have h1 : (stF stepB [] (S.take j)).length = ln := HLEN.out; omega)
        have HST9 := hide hst9
        have HL9 := hide hl9
        obtain ⟨m, hm⟩ : ∃ m, m = P.length := ⟨_, rfl⟩
        have HM := hide hm
        have hmj : m = j := by rw [hm]; exact HI.out.len
        have hown := HL3.out.want.own
        rw [← hm] at hown
        have hts : S.take (j + 1) = S.take j ++ [s] := by rw [List.take_add_one, HX.out]; rfl
        have HTS := hide hts
        clear hm hal hgd hst9 hl9 hts
        unfold AnsD.cells
        rw [hpn]
        clear hpn
        go_wp2_with (at_builtin; go_must (refine wpList_append_ans rfl _ _ 26 rfl 31 i0 _ Try.underlying26 hinf hz0 hz1 hz2 rfl w3 w.heap.size u4 m _ hown a.n a.ok none 0 0 false rfl rfl (by omega) (by omega) ?_); intro v' w6 hown' hc6 hat hb6; have hk3 : w6.cell? ⟨w3.heap.size, 3, none⟩ = some (.bool false) := (by rw [hb6.cell]; rfl); have HOWN6 := hide hown'; have HC6 := hide hc6; clear hown' hc6 hat hb6)
        go_roundw
        case measure => simp [intOf]; omega
        case rel =>
          have hown2 := HOWN6.out
          rw [HM.out, ← HPN.out] at hown2
          refine ⟨j + 1, NA, l'.length, nc, P ++ [(a, .slice none 0 0)], by omega, ?_, by go_num, rfl, ?_, ?_⟩
          · have h1 := HL9.out
            have h2 : (stF stepB [] (S.take j)).length = ln := HLEN.out
            omega
          · show World.ownsRow _ _ _ _ _ _ _
            rw [HTS.out, stF_snoc, HST9.out]
            exact own_chg HO3.out HC6.out (fun g hg e => by
              obtain ⟨cs, hcs⟩ := own_blk HL3.out.want.own e
              obtain ⟨cs', hcs'⟩ := own_blk HO3.out hg
              exact hcs.ne_ hcs' (by decide) rfl)
          · exact HL3.out.step HTS.out HST9.out HGD.out HAL.out hown2 HC6.out
    · have LWW : Hid (LawB S w wr j u4 P) := HI.out
      have HSW : Hid (StepsIn wr (fun _ => True) (some ad) k S) := HSR.out.more (K' := fun _ => True) (fun _ _ => trivial)
      have hpk := hj
      generalize wr = W at *
      generalize j = pl at *
      have hplk : pl ≤ k := hpk
      obtain ⟨WA, wc, rfl, hPm, hans⟩ := LWW.out.want.ansIn
      have HANS := hide hans
      have HPL := hide (show P.length = pl from LWW.out.len)
      clear hans
      generalize hpl : P.length = pp at *
      have HPP := hide hpl
      have hplj : pp = pl := HPL.out
      subst hplj
      clear hpl
      have hsz : w.heap.size ≤ W.heap.size := LWW.out.bel.size
      go_wp2_with fail
      have hq := bits_walk (fun _ => True) none 0 0 [] [] (some ad) pp c (S.take pp) W ⟨rfl, fun h => absurd h (by omega)⟩ (fun _ => ⟨rfl, rfl⟩) (by omega) (fun b hb => by cases hb) VecIs.nil (by simp) (HSW.out.take (by omega)) (by omega) LWW.out.good
      rw [show outF stepB [] (S.take pp) = P.map (·.1) from LWW.out.eq.symm] at hq
      refine hq.mono ?_
      clear hq
      rintro e w2 ⟨RA, rc, bv, D, rfl, hm2, hans2, hown2, _, _, _, hbl2⟩
      have HLX := HLEN.out
      unfold LenIs at HLX
      rw [HLX]
      have hPl2 : (P.map (·.1)).length = pp := by rw [List.length_map]; exact HPP.out
      rw [hPl2] at hans2 hm2 ⊢
      have HA2 := hide hans2
      have HB9 := hide hbl2
      have hsz2 := hbl2.size
      obtain ⟨BA, bc, rfl, _⟩ := own_reads hown2
      clear hans2 hbl2 hown2
      go_wp2_with fail
      generalize hW2 : w2.alloc (.cells #[.int .i64 0, .int .i64 0, .int .i64 0, .int .i64 1, .int .i64 0, .int .i64 0, .int .i64 0, .slice none 0 0, .int .i64 4, .int .i64 0, .int .i64 0, .int .i64 0, .int .i64 0, .int .i64 0, .int .i64 0, .slice none 0 0] 29) = W2
      obtain ⟨hs2, hb2⟩ : StepsIn W2 (fun _ => True) (some ⟨w2.heap.size, 0, none⟩) 2 [bits1, bits2] ∧ Below w2.heap.size w2 W2 := by
        subst hW2
        exact ⟨bits_steps _ _ (Blk.new _ _ _), (Below.refl _ _).alloc (Nat.le_refl _) _⟩
      have HB2 := hide hb2
      clear hW2 hb2
      have hq := bits_walk (fun _ => True) none 0 0 [] [] (some ⟨w2.heap.size, 0, none⟩) 2 2 [bits1, bits2] W2 ⟨rfl, fun h => absurd h (by omega)⟩ (fun _ => ⟨rfl, rfl⟩) (by omega) (fun b hb => by cases hb) VecIs.nil (by simp) hs2 (by omega) ⟨⟨by simp, Or.inl ⟨rfl, Or.inr rfl⟩⟩, fun _ => ⟨⟨by decide, Or.inr (Or.inr (Or.inl ⟨Or.inr rfl, by decide, by decide⟩))⟩, fun _ => trivial⟩⟩
      rw [show outF stepB [] [bits1, bits2] = [zeroAns, ⟨1, false, [], false⟩] from rfl] at hq
      refine hq.mono ?_
      clear hq hs2
      rintro e w4 ⟨QA, qc, bv2, D2, rfl, _, hans4, hown4, _, _, _, hbl4⟩
      obtain ⟨ad4, a4, LA4, lc4, rfl, hx4, hat4⟩ := hans4.2 1 (by decide)
      have ha4 : a4 = ⟨1, false, [], false⟩ := by simpa using hx4.symm
      have hc4 : w4.cell? ⟨ad4.block, ad4.off + 4, none⟩ = some (.int .i64 1) := by
        have := hat4.c0
        rw [ha4] at this
        exact this
      have hl4 : ad4.block < w4.heap.size := hat4.here
      have HB4 := hide (HB2.out.trans (hbl4.mono HB2.out.size))
      have hsz4 : w2.heap.size ≤ w4.heap.size := Nat.le_trans HB2.out.size hbl4.size
      obtain ⟨BA2, bc2, rfl, _⟩ := own_reads hown4
      clear hans4 hbl4 hown4 hx4 hat4 ha4
      show (match (Ending.returned (.tuple #[.slice (some ad4) 2 qc, .slice BA2 D2.length bc2, .int .i64 (stF stepB [] [bits1, bits2]).length])), w4 with | _, _ => _)
      go_wp2_with fail
      refine (alike_eq RA WA pp rc wc (P.map (·.1)) w4 (HA2.out.below HB4.out) ((HANS.out.below HB9.out).below HB4.out) hm2).mono ?_
      rintro e w9 ⟨rfl, hb3⟩
      have HB10 := hide hb3
      have hc9 : w9.cell? ⟨ad4.block, ad4.off + 4, none⟩ = some (.int .i64 1) := (hb3.cell (p := ⟨ad4.block, ad4.off + 4, none⟩) hl4).trans hc4
      clear hb3
      go_wp2
      go_ret
      exact ⟨rfl, LWW.out.bel.trans ((HB9.out.mono hsz).trans ((HB4.out.mono (by omega)).trans (HB10.out.mono (by omega))))⟩

set_option maxHeartbeats 1000000 in
set_option maxRecDepth 100000 in
theorem fnBits_none (w : World) : Calls Try.prog 7 #[.slice none 0 0] w fun e w' => e = .returned (.bool true) ∧ Below w.heap.size w w' := by
  have hs : ∀ W, StepsIn W (fun _ => True) none 0 [] := fun W => ⟨rfl, fun i hi => by omega⟩
  have hfits := fits4_any _ none 0 0 [] w (hs w) (by simp [maxLen])
  have hf : fitsS 0 [] = true := by decide
  rw [hf] at hfits
  clear hf
  go_enter Try.func7, Try.ntmps7
  go_wp2_with fail
  refine hfits.mono ?_
  clear hfits
  rintro e w1 ⟨rfl, hb1⟩
  have HB1 := hide hb1
  have hs1 := hb1.size
  clear hb1
  go_wp2
  refine wp_loop_rounds 1 ?_
  rw [rounds_succ]
  go_wp2_with fail
  have hq := bits_walk (fun _ => True) none 0 0 [] [] none 0 0 [] w1 ⟨rfl, fun h => absurd h (by omega)⟩ (fun _ => ⟨rfl, rfl⟩) (by omega) (fun b hb => by cases hb) VecIs.nil (by simp) (hs w1) (by omega) trivial
  rw [show outF stepB [] [] = [] from rfl, show stF stepB [] [] = ([] : List Int) from rfl] at hq
  refine hq.mono ?_
  clear hq
  rintro e w2 ⟨RA, rc, bv, D, rfl, hm2, hans2, hown2, _, _, _, hbl2⟩
  have HB9 := hide hbl2
  have hsz2 := hbl2.size
  have HA2 : Hid (AnsIn w2 RA 0 []) := hans2
  obtain ⟨BA, bc, rfl, _⟩ := own_reads hown2
  clear hans2 hbl2 hown2 hm2
  show (match (Ending.returned (.tuple #[.slice RA 0 rc, .slice BA D.length bc, .int .i64 0])), w2 with | _, _ => _)
  go_wp2_with fail
  generalize hW2 : w2.alloc (.cells #[.int .i64 0, .int .i64 0, .int .i64 0, .int .i64 1, .int .i64 0, .int .i64 0, .int .i64 0, .slice none 0 0, .int .i64 4, .int .i64 0, .int .i64 0, .int .i64 0, .int .i64 0, .int .i64 0, .int .i64 0, .slice none 0 0] 29) = W2
  obtain ⟨hs2, hb2⟩ : StepsIn W2 (fun _ => True) (some ⟨w2.heap.size, 0, none⟩) 2 [bits1, bits2] ∧ Below w2.heap.size w2 W2 := by
    subst hW2
    exact ⟨bits_steps _ _ (Blk.new _ _ _), (Below.refl _ _).alloc (Nat.le_refl _) _⟩
  have HB2 := hide hb2
  clear hW2 hb2
  have hq := bits_walk (fun _ => True) none 0 0 [] [] (some ⟨w2.heap.size, 0, none⟩) 2 2 [bits1, bits2] W2 ⟨rfl, fun h => absurd h (by omega)⟩ (fun _ => ⟨rfl, rfl⟩) (by omega) (fun b hb => by cases hb) VecIs.nil (by simp) hs2 (by omega) ⟨⟨by simp, Or.inl ⟨rfl, Or.inr rfl⟩⟩, fun _ => ⟨⟨by decide, Or.inr (Or.inr (Or.inl ⟨Or.inr rfl, by decide, by decide⟩))⟩, fun _ => trivial⟩⟩
  rw [show outF stepB [] [bits1, bits2] = [zeroAns, ⟨1, false, [], false⟩] from rfl] at hq
  refine hq.mono ?_
  clear hq hs2
  rintro e w4 ⟨QA, qc, bv2, D2, rfl, _, hans4, hown4, _, _, _, hbl4⟩
  obtain ⟨ad4, a4, LA4, lc4, rfl, hx4, hat4⟩ := hans4.2 1 (by decide)
  have ha4 : a4 = ⟨1, false, [], false⟩ := by simpa using hx4.symm
  have hc4 : w4.cell? ⟨ad4.block, ad4.off + 4, none⟩ = some (.int .i64 1) := by
    have := hat4.c0
    rw [ha4] at this
    exact this
  have hl4 : ad4.block < w4.heap.size := hat4.here
  have HB4 := hide (HB2.out.trans (hbl4.mono HB2.out.size))
  have hsz4 : w2.heap.size ≤ w4.heap.size := Nat.le_trans HB2.out.size hbl4.size
  obtain ⟨BA2, bc2, rfl, _⟩ := own_reads hown4
  clear hans4 hbl4 hown4 hx4 hat4 ha4
  show (match (Ending.returned (.tuple #[.slice (some ad4) 2 qc, .slice BA2 D2.length bc2, .int .i64 (stF stepB [] [bits1, bits2]).length])), w4 with | _, _ => _)
  go_wp2_with fail
  refine (alike_eq RA none 0 rc 0 [] w4 (HA2.out.below HB4.out) ⟨rfl, fun i hi => by omega⟩ (by simp [maxLen])).mono ?_
  rintro e w9 ⟨rfl, hb3⟩
  have HB10 := hide hb3
  have hc9 : w9.cell? ⟨ad4.block, ad4.off + 4, none⟩ = some (.int .i64 1) := (hb3.cell (p := ⟨ad4.block, ad4.off + 4, none⟩) hl4).trans hc4
  clear hb3
  go_wp2
  go_ret
  exact ⟨rfl, HB1.out.trans ((HB9.out.mono hs1).trans ((HB4.out.mono (by omega)).trans (HB10.out.mono (by omega))))⟩

set_option maxHeartbeats 1000000 in
theorem fnBits_any (A : Option Addr) (k c : Nat) (S : List StepD) (w : World) (hs : StepsIn w (fun _ => True) A k S) (hk : k ≤ maxLen) (hkc : k ≤ c) (hcm : c ≤ maxLen) (hnil : A = none → c = 0) :
    Calls Try.prog 7 #[.slice A k c] w fun e w' => e = .returned (.bool true) ∧ Below w.heap.size w w' := by
  by_cases hfit : fitsS k S = true
  · by_cases h3 : 300 < k
    · have hfits := fits4_any _ A k c S w hs hk
      rw [hfit] at hfits
      have hk2 := hk
      unfold maxLen at hk2
      clear hs hfit
      go_enter Try.func7, Try.ntmps7
      go_wp2_with fail
      refine hfits.mono ?_
      rintro e w1 ⟨rfl, hb1⟩
      have HB1 := hide hb1
      have hs1 := hb1.size
      clear hb1 hfits
      go_wp2_with fail
      refine (works_any w1).mono ?_
      rintro e w2 ⟨rfl, hb2⟩
      have HB2 := hide hb2
      clear hb2
      go_wp2
      go_ret
      exact ⟨rfl, HB1.out.trans (HB2.out.mono hs1)⟩
    · cases A with
      | none =>
        have hc := hnil rfl
        subst hc
        have hk0 : k = 0 := by omega
        subst hk0
        exact fnBits_none w
      | some ad => exact fnBits_some ad k c S w hs hk hkc hcm hfit (by omega)
  · have hfit' : fitsS k S = false := by simpa using hfit
    have hfits := fits4_any _ A k c S w hs hk
    rw [hfit'] at hfits
    have hk2 := hk
    unfold maxLen at hk2
    clear hfit hfit' hs
    go_enter Try.func7, Try.ntmps7
    go_wp2_with fail
    refine hfits.mono ?_
    rintro e w1 ⟨rfl, hb1⟩
    have HB1 := hide hb1
    clear hb1 hfits
    go_wp2_with fail
    go_ret
    exact ⟨rfl, HB1.out⟩
end Go.Proofs.Ytammpllfmbmdmaa
