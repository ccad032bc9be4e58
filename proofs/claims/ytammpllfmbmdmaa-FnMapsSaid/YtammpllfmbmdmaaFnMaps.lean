/- The law FnMaps: for all steps over two maps it answers true. Under the sizes of the arguments alone. Printed by gen_fm.py. -/
import Derived.Test.YtammpllfmbmdmaaFmB
import Derived.Test.YtammpllfmbmdmaaRst
import Derived.Deep.RegionHeld3
import Derived.StillTailTactics
import Derived.Deep.Cut
import Derived.Deep.CutRange
import Derived.Deep.CutBlock
namespace Go.Proofs.Ytammpllfmbmdmaa
open Go.RowKit

theorem blk2 {E : World} {b : Nat} {x y p q : Value} (h : Blk E b 49 #[x, y]) : Blk ((E.setCell ⟨b, 0, none⟩ p).setCell ⟨b, 1, none⟩ q) b 49 #[p, q] := (h.set_ 0 p).set_ 1 q
theorem blk4 {E : World} {b : Nat} {x y z v p q r t : Value} (h : Blk E b 31 #[x, y, z, v]) : Blk ((((E.setCell ⟨b, 0, none⟩ p).setCell ⟨b, 1, none⟩ q).setCell ⟨b, 2, none⟩ r).setCell ⟨b, 3, none⟩ t) b 31 #[p, q, r, t] := (((h.set_ 0 p).set_ 1 q).set_ 2 r).set_ 3 t
theorem cut_ {p q : Prop} (hp : p) (h : p → q) : q := h hp

set_option linter.unusedVariables false in
set_option linter.unusedSimpArgs false in
set_option maxHeartbeats 4000000 in
set_option maxRecDepth 100000 in
theorem fnMaps_some (md : Int) (ad : Addr) (k c : Nat) (S : List StepD) (w : World) (hmd : okI md) (hs : StepsIn w (fun _ => True) (some ad) k S) (hk : k ≤ maxLen) (hkc : k ≤ c) (hcm : c ≤ maxLen) (hfit : fitsS k S = true) (h300 : k ≤ 300) :
    Calls Try.prog 8 #[.int .i64 md, .slice (some ad) k c] w fun e w' => e = .returned (.bool true) ∧ Below w.heap.size w w' := by
  have HS := hide hs.old
  have hSl : S.length = k := hs.1
  have hcm2 := hcm
  unfold maxLen at hcm2
  obtain ⟨i0, hinf, hz0, hz1, hz2⟩ := info_parts info31
  have hkk : ¬ (300 : Int) < (k : Int) := by omega
  have hfits := fits4_any _ (some ad) k c S w hs hk
  rw [hfit] at hfits
  clear hs hfit hk hcm
  go_enter Try.func8, Try.ntmps8
  go_wp2_with fail
  refine hfits.mono ?_
  clear hfits
  rintro e w1 ⟨rfl, hb1⟩
  have HB1 := hide (hb1.alloc hb1.size (.cells #[.slice none 0 0, .slice none 0 0] 49))
  have HM0 : Hid (MV md S (w1.alloc (.cells #[.slice none 0 0, .slice none 0 0] 49)) w1.heap.size 0 (.slice none 0 0) none none 0 0 ([], [])) := ⟨Blk.new _ _ _, ⟨PairsIn.none_, PairsIn.none_⟩, rfl⟩
  have hs1 := hb1.size
  clear hb1
  go_upto_block 0 with fail
  go_cut [6] from 24 to 42 (fun v6 w' => ∃ (pl : Nat) (P : List (AnsD × Value)), pl ≤ k ∧ Hid (LawI (stpF md) (fun _ _ => True) ([], []) S w w' pl v6 P))
  case rest =>
    obtain ⟨pl, P, hplk, hI⟩ := hcut
    have HS2 : Hid (StepsIn wc (fun i => i < w.heap.size) (some ad) k S) := HS.out.keep hI.out.bel.size (fun p hp _ => hI.out.bel.cell hp)
    have hsz : w.heap.size ≤ wc.heap.size := hI.out.bel.size
    have HB2 := hide hI.out.bel
    obtain ⟨WA, wc9, rfl, hPm, hans⟩ := hI.out.want.ansIn
    have HANS := hide hans
    have HPE : Hid (P.map (·.1) = fixes (S.take pl) (outsM md ([], []) (S.take pl))) := hI.out.eq.trans (outF_fix md _ _)
    have hpl : P.length = pl := hI.out.len
    clear hans
    generalize P.length = pp at *
    subst hpl
    have HOL : Hid ((outsM md ([], []) (S.take pp)).length = pp) := by
      show _ = _
      rw [outsM_len, List.length_take]
      omega
    have hcall := maps_own md (some ad) pp c (S.take pp) wc hmd ((HS2.out.take (by omega)).more (fun _ _ => trivial)) (by omega) (goodM_of (K := S.map (·.key)) (by rw [List.length_map]; omega) (S.take pp) ([], []) OkL.nil OkL.nil (fun s hs => List.mem_map.2 ⟨s, List.mem_of_mem_take hs, rfl⟩))
    have HCALL := hide hcall
    clear hcall hI
    go_wp2_with fail
    refine HCALL.out.mono ?_
    clear HCALL
    rintro e w2 ⟨v, PG, rfl, hmap, hout, hb3⟩
    have hlF : (fixes (S.take pp) (outsM md ([], []) (S.take pp))).length = (outsM md ([], []) (S.take pp)).length := fixes_len (by rw [outsM_len])
    have HL0 : Hid (L2 wc w2 v (fixes (S.take pp) (outsM md ([], []) (S.take pp))) (outsM md ([], []) (S.take pp)) 0 PG) := ⟨hout, by rw [hmap]; rfl, hlF, hb3⟩
    have hPG : PG.length = pp := by rw [← HOL.out, ← hmap, List.length_map]
    obtain ⟨RA, rc, rfl, hRm, _⟩ := hout.ansIn
    rw [hPG] at HL0 hRm ⊢
    generalize hOL : outsM md ([], []) (S.take pp) = L at *
    generalize hFX : fixes (S.take pp) L = F at *
    have HFX := hide hFX
    clear hmap hout hb3 hlF hPG hOL hFX
    go_wp2_with fail
    go_loopw [51] (fun i wr => ∃ (j : Nat) (P2 : List (AnsD × Value)), j ≤ pp ∧ i = .int .i64 j ∧ Hid (L2 wc wr (.slice RA pp rc) F L j P2)) (fun i _ => pp - (intOf i).toNat)
    case atStart => exact ⟨0, PG, Nat.zero_le _, rfl, HL0.out⟩
    case round =>
      obtain ⟨j, P2, hj, rfl, hL⟩ := hrel
      have hlL : L.length = pp := HOL.out
      by_cases hlt : j < pp
      · obtain ⟨g, cap, a, u, hv, hP2, hLj, a0, a1, f0, hg⟩ := hL.out.at_ (by omega)
        injection hv with hv1 hv2 hv3
        subst hv1
        clear hv2 hv3
        obtain ⟨ad', s, SA, sc, he, hx, hst⟩ := HS2.out.2 j (by omega)
        injection he with he
        subst he
        have hxt : (S.take pp)[j]? = some s := by rw [List.getElem?_take, if_pos hlt]; exact hx
        have hFj : F[j]? = some (fixA s a) := by rw [← HFX.out]; exact fixes_at hxt hLj
        have hst2 := hst.keep hL.out.bel.size (fun p hp hk => hL.out.bel.cell (by omega))
        have e0 := hst2.c0
        have HLJ := hide hLj
        have HFJ := hide hFj
        have HP2 := hide hP2
        clear hx hst hst2 hxt hLj hFj hP2 hlL
        by_cases hw1 : s.what = 1
        · cases hok : a.ok
          · have HN : Hid (L2 wc (wr.setCell ⟨g, j * 4, none⟩ (.int .i64 0)) (.slice (some ⟨g, 0, none⟩) pp rc) F L (j + 1) (P2.set j ({ a with n := 0 }, u))) := hL.out.set_ HP2.out HLJ.out (by rw [HFJ.out, fixA_no hw1 hok]) hg
            rw [hok] at a1
            rw [hw1] at e0
            go_wp2_with fail
            go_roundw
            case rel => exact ⟨j + 1, _, by omega, by go_num, HN.out⟩
            case measure => simp [intOf]; omega
          · have HN : Hid (L2 wc wr (.slice (some ⟨g, 0, none⟩) pp rc) F L (j + 1) P2) := hL.out.keep_ HLJ.out (by rw [HFJ.out, fixA_ok (by rw [hok]; simp)])
            rw [hok] at a1
            rw [hw1] at e0
            go_wp2_with fail
            go_roundw
            case rel => exact ⟨j + 1, _, by omega, by go_num, HN.out⟩
            case measure => simp [intOf]; omega
        · have HN : Hid (L2 wc wr (.slice (some ⟨g, 0, none⟩) pp rc) F L (j + 1) P2) := hL.out.keep_ HLJ.out (by rw [HFJ.out, fixA_ok (fun h => hw1 h.1)])
          have hwd : decide (s.what = 1) = false := decide_eq_false hw1
          go_wp2_with fail
          go_roundw
          case rel => exact ⟨j + 1, _, by omega, by go_num, HN.out⟩
          case measure => simp [intOf]; omega
      · have hjp : j = pp := by omega
        subst hjp
        have hL2 := hL.out
        have heq := hL2.eq
        have hlF := hL2.len
        rw [List.take_of_length_le (by omega), List.drop_of_length_le (by omega), List.append_nil] at heq
        obtain ⟨RA2, rc2, hv, _, hans2⟩ := hL2.out.ansIn
        injection hv with hv1 hv2 hv3
        subst hv1
        clear hv2 hv3
        rw [hL2.lenP (by omega), hlL, heq] at hans2
        have HA2 : Hid (AnsIn wr RA j (P.map (·.1))) := by
          show AnsIn _ _ _ _
          rw [HPE.out]
          exact hans2
        have HB3 := hide hL2.bel
        clear hans2 heq hlF hL2 hlL
        go_wp2_with fail
        refine (alike_eq RA WA j rc wc9 (P.map (·.1)) wr HA2.out (HANS.out.below HB3.out) hRm).mono ?_
        rintro e w9 ⟨rfl, hb9⟩
        have HB10 := hide hb9
        have hsz3 := hb9.size
        clear hb9
        go_wp2_with fail
        refine (works_any w9).mono ?_
        rintro e w10 ⟨rfl, hb4⟩
        have HB11 := hide hb4
        have hsz2 := HB3.out.size
        clear hb4
        go_wp2
        go_ret
        exact ⟨rfl, HB2.out.trans ((HB3.out.mono hsz).trans ((HB10.out.mono (by omega)).trans (HB11.out.mono (by omega))))⟩
  case first =>
  go_wp2_with fail
  go_loopw [6, 23] (fun v6 i wr => ∃ (j : Nat) (A0 A1 : Option Addr) (c0 c1 : Nat) (x : Two) (P : List (AnsD × Value)), j ≤ k ∧ i = .int .i64 j ∧ Hid (MV md S wr w1.heap.size j v6 A0 A1 c0 c1 x) ∧ LawI (stpF md) (fun _ _ => True) ([], []) S w wr j v6 P) (fun _ i _ => k - (intOf i).toNat)
  case atStart => exact ⟨0, none, none, 0, 0, ([], []), [], Nat.zero_le _, rfl, HM0.out, lawI_start HB1.out⟩
  case round =>
    obtain ⟨j, A0, A1, c0, c1, x, P, hj, rfl, HMV, hI⟩ := hrel
    have HI := hide hI
    have hwr := hI.bel.size
    clear hI
    have hsr := HS.out.keep HI.out.bel.size (fun p hp _ => HI.out.bel.cell hp)
    have HSR := hide hsr
    clear hsr
    by_cases hlt : j < k
    · obtain ⟨ad', s, SA, sc, he, hx, hst⟩ := HSR.out.2 j hlt
      injection he with he
      subst he
      have HX := hide hx
      have HTS : Hid (S.take (j + 1) = S.take j ++ [s]) := by show _ = _; rw [List.take_add_one, hx]; rfl
      obtain ⟨e0, e1, e2, e3, e4, e5, e6, e7⟩ := And.intro hst.c0 (And.intro hst.c1 (And.intro hst.c2 (And.intro hst.c3 (And.intro hst.c4 (And.intro hst.c5 (And.intro hst.c6 hst.c7))))))
      have hbW : Below wr.heap.size wr (wr.alloc (.cells (s.cells (.slice SA s.list.length sc)) 29)) := (Below.refl _ _).alloc (Nat.le_refl _) _
      have hxW : Blk (wr.alloc (.cells (s.cells (.slice SA s.list.length sc)) 29)) wr.heap.size 29 (s.cells (.slice SA s.list.length sc)) := Blk.new _ _ _
      have hlen := HMV.out.len
      rw [hSl] at hlen
      have hgl : w1.heap.size < wr.heap.size := HMV.out.m.lt
      have htW := HMV.out.two.lo.below hbW
      have hmW := HMV.out.m.below hbW HMV.out.m.lt
      have hwz : (wr.alloc (.cells (s.cells (.slice SA s.list.length sc)) 29)).heap.size = wr.heap.size + 1 := by simp
      have hstep := step_any s SA s.list.length sc
      unfold StepD.cells at hbW hxW hmW htW hwz hstep
      have HBW := hide hbW
      have HXW := hide hxW
      have HTW := hide htW
      have HMW := hide hmW
      have HWZ := hide hwz
      have HSTEP := hide hstep
      obtain ⟨x0, x1⟩ := x
      have hspec := fun (X : World) (hX : TwoIn X (Lo (KM w1.heap.size u6) wr.heap.size) A0 A1 c0 c1 (x0, x1)) => spec_any (Lo (KM w1.heap.size u6) wr.heap.size) A0 A1 SA c0 c1 sc (x0, x1) s X (show x0.length ≤ 274877906944 by have h9 : x0.length ≤ k := hlen.1; omega) (show x1.length ≤ 274877906944 by have h9 : x1.length ≤ k := hlen.2; omega) hX
      unfold StepD.cells at hspec
      rcases hsq : specM (x0, x1) s with ⟨⟨y0, y1⟩, ⟨an, ao, al, ap⟩, fits⟩
      rw [hsq] at hspec
      have HSPEC := hide hspec
      have HSQ := hide hsq
      clear hx hst hbW hxW htW hmW hwz hstep hspec hsq
      go_upto_region 10 with (fail)
      generalize wr.alloc (.cells #[.int .i64 s.what, .int .i64 s.which, .int .i64 s.index, .int .i64 s.bit, .int .i64 s.n, .int .i64 s.key, .int .i64 s.value, .slice SA s.list.length sc] 29) = W at *
      have HKP : Hid (∀ X, Gr W X → X.cell? ⟨w1.heap.size, 0, none⟩ = some (.slice A0 x0.length c0) ∧ X.cell? ⟨w1.heap.size, 1, none⟩ = some (.slice A1 x1.length c1) ∧ X.cell? ⟨wr.heap.size, 0, none⟩ = some (.int .i64 s.what) ∧ X.cell? ⟨wr.heap.size, 1, none⟩ = some (.int .i64 s.which) ∧ X.cell? ⟨wr.heap.size, 2, none⟩ = some (.int .i64 s.index) ∧ X.cell? ⟨wr.heap.size, 3, none⟩ = some (.int .i64 s.bit) ∧ X.cell? ⟨wr.heap.size, 4, none⟩ = some (.int .i64 s.n) ∧ X.cell? ⟨wr.heap.size, 5, none⟩ = some (.int .i64 s.key) ∧ X.cell? ⟨wr.heap.size, 6, none⟩ = some (.int .i64 s.value) ∧ X.cell? ⟨wr.heap.size, 7, none⟩ = some (.slice SA s.list.length sc)) := fun X hX => by
        have hm := HMW.out.chg hX (fun h => h)
        have hx := HXW.out.chg hX (fun h => h)
        exact ⟨(hm.cell 0).trans rfl, (hm.cell 1).trans rfl, (hx.cell 0).trans rfl, (hx.cell 1).trans rfl, (hx.cell 2).trans rfl, (hx.cell 3).trans rfl, (hx.cell 4).trans rfl, (hx.cell 5).trans rfl, (hx.cell 6).trans rfl, (hx.cell 7).trans rfl⟩
      have HTP : Hid (∀ X, Gr W X → TwoIn X (Lo (KM w1.heap.size u6) wr.heap.size) A0 A1 c0 c1 (x0, x1)) := fun X hX => HTW.out.below hX.below
      obtain ⟨m0, m1, m2, m3, m4, m5, m6, m7, m8, m9⟩ := HKP.out W (Chg.refl _ _)
      go_cut [9, 10, 11] from 24 to 42 (fun v9 v10 v11 w' => ∃ (b9 b10 : Nat) (B0 B1 : Option Addr) (d0 d1 : Nat) (RA : Option Addr) (rc : Nat), v9 = .pointer (some ⟨b9, 0, none⟩) ∧ v10 = .pointer (some ⟨b10, 0, none⟩) ∧ v11 = .bool fits ∧ Hid (Reg wr w1.heap.size u6 B0 B1 d0 d1 (y0, y1) RA rc ⟨an, ao, al, ap⟩ b9 b10 w'))
      case first =>
        go_region_held3 (fun w' => w'.cell? ⟨w1.heap.size, 0, none⟩ = some (.slice A0 x0.length c0) ∧ w'.cell? ⟨w1.heap.size, 1, none⟩ = some (.slice A1 x1.length c1) ∧ w'.cell? ⟨wr.heap.size, 0, none⟩ = some (.int .i64 s.what) ∧ w'.cell? ⟨wr.heap.size, 1, none⟩ = some (.int .i64 s.which) ∧ w'.cell? ⟨wr.heap.size, 2, none⟩ = some (.int .i64 s.index) ∧ w'.cell? ⟨wr.heap.size, 3, none⟩ = some (.int .i64 s.bit) ∧ w'.cell? ⟨wr.heap.size, 4, none⟩ = some (.int .i64 s.n) ∧ w'.cell? ⟨wr.heap.size, 5, none⟩ = some (.int .i64 s.key) ∧ w'.cell? ⟨wr.heap.size, 6, none⟩ = some (.int .i64 s.value) ∧ w'.cell? ⟨wr.heap.size, 7, none⟩ = some (.slice SA s.list.length sc))
          (exact HKP.out _ (by repeat (first | (with_reducible exact Chg.refl _ _) | (with_reducible exact HC3.out) | (with_reducible exact HC2.out) | (with_reducible refine Chg.drewN ?_ _) | (with_reducible refine Chg.drew ?_) | (with_reducible refine Chg.alloc ?_ _) | ((with_reducible refine Chg.setCell ?_ (fun h9 => ?_) _); rotate_left; (try dsimp only at h9); focus (first | omega | (exfalso; simp at h9; done) | (exfalso; simp at h9; omega))))))
          ((first
            | (go_at_call 13
               refine (HSTEP.out _).mono ?_
               rintro e w2 ⟨rfl, hb2⟩
               have HX2 := hide hb2
               have l2 := hb2.size
               have HC2 : Hid (Gr W w2) := Chg.trans (by repeat (first | (with_reducible exact Chg.refl _ _) | (with_reducible exact HC3.out) | (with_reducible exact HC2.out) | (with_reducible refine Chg.drewN ?_ _) | (with_reducible refine Chg.drew ?_) | (with_reducible refine Chg.alloc ?_ _) | ((with_reducible refine Chg.setCell ?_ (fun h9 => ?_) _); rotate_left; (try dsimp only at h9); focus (first | omega | (exfalso; simp at h9; done) | (exfalso; simp at h9; omega))))) (Gr.ofBelow hb2) (fun _ _ h => h)
               have lw2 : W.heap.size ≤ w2.heap.size := HC2.out.size
               try simp at l2
               try (refine cut_ (p := Blk w2 (W.heap.size) 49 #[.slice none 0 0, .slice none 0 0]) ?_ (fun qw20 => ?_)
                    · ((repeat (first | (with_reducible exact Blk.new _ _ _) | ((with_reducible refine Blk.new_ _ _ _ ?_); (focus (simp; done))) | (with_reducible refine blk2 (x := .slice none 0 0) (y := .slice none 0 0) ?_) | (with_reducible refine blk4 (x := .int .i64 0) (y := .bool false) (z := .slice none 0 0) (v := .bool false) ?_) | ((with_reducible refine Blk.far ?_ ?_ _); rotate_left; (try dsimp only); ((focus (first | omega | (simp; done) | (simp; omega))))) | (with_reducible refine Blk.drew ?_) | (with_reducible refine Blk.alloc ?_ _) | ((with_reducible refine Blk.below ?_ HX3.out ?_); rotate_left; ((focus (first | omega | (simp; done) | (simp; omega))))) | ((with_reducible refine Blk.below ?_ HX2.out ?_); rotate_left; ((focus (first | omega | (simp; done) | (simp; omega))))))))
                    have lqw20 := qw20.lt
                    have cqw200 : w2.cell? ⟨W.heap.size, 0, none⟩ = some (.slice none 0 0) := (by rw [qw20.cell]; rfl)
                    have fqw200 : w2.frozen? ⟨W.heap.size, 0, none⟩ = false := qw20.frozen 0
                    have cqw201 : w2.cell? ⟨W.heap.size, 1, none⟩ = some (.slice none 0 0) := (by rw [qw20.cell]; rfl)
                    have fqw201 : w2.frozen? ⟨W.heap.size, 1, none⟩ = false := qw20.frozen 1
                    clear qw20)
               try (refine cut_ (p := Blk w2 (W.heap.size) 31 #[.int .i64 0, .bool false, .slice none 0 0, .bool false]) ?_ (fun qw21 => ?_)
                    · ((repeat (first | (with_reducible exact Blk.new _ _ _) | ((with_reducible refine Blk.new_ _ _ _ ?_); (focus (simp; done))) | (with_reducible refine blk2 (x := .slice none 0 0) (y := .slice none 0 0) ?_) | (with_reducible refine blk4 (x := .int .i64 0) (y := .bool false) (z := .slice none 0 0) (v := .bool false) ?_) | ((with_reducible refine Blk.far ?_ ?_ _); rotate_left; (try dsimp only); ((focus (first | omega | (simp; done) | (simp; omega))))) | (with_reducible refine Blk.drew ?_) | (with_reducible refine Blk.alloc ?_ _) | ((with_reducible refine Blk.below ?_ HX3.out ?_); rotate_left; ((focus (first | omega | (simp; done) | (simp; omega))))) | ((with_reducible refine Blk.below ?_ HX2.out ?_); rotate_left; ((focus (first | omega | (simp; done) | (simp; omega))))))))
                    have lqw21 := qw21.lt
                    have cqw210 : w2.cell? ⟨W.heap.size, 0, none⟩ = some (.int .i64 0) := (by rw [qw21.cell]; rfl)
                    have fqw210 : w2.frozen? ⟨W.heap.size, 0, none⟩ = false := qw21.frozen 0
                    have cqw211 : w2.cell? ⟨W.heap.size, 1, none⟩ = some (.bool false) := (by rw [qw21.cell]; rfl)
                    have fqw211 : w2.frozen? ⟨W.heap.size, 1, none⟩ = false := qw21.frozen 1
                    have cqw212 : w2.cell? ⟨W.heap.size, 2, none⟩ = some (.slice none 0 0) := (by rw [qw21.cell]; rfl)
                    have fqw212 : w2.frozen? ⟨W.heap.size, 2, none⟩ = false := qw21.frozen 2
                    have cqw213 : w2.cell? ⟨W.heap.size, 3, none⟩ = some (.bool false) := (by rw [qw21.cell]; rfl)
                    have fqw213 : w2.frozen? ⟨W.heap.size, 3, none⟩ = false := qw21.frozen 3
                    clear qw21)
               try (refine cut_ (p := Blk w2 (W.heap.size + 1) 49 #[.slice none 0 0, .slice none 0 0]) ?_ (fun qw22 => ?_)
                    · ((repeat (first | (with_reducible exact Blk.new _ _ _) | ((with_reducible refine Blk.new_ _ _ _ ?_); (focus (simp; done))) | (with_reducible refine blk2 (x := .slice none 0 0) (y := .slice none 0 0) ?_) | (with_reducible refine blk4 (x := .int .i64 0) (y := .bool false) (z := .slice none 0 0) (v := .bool false) ?_) | ((with_reducible refine Blk.far ?_ ?_ _); rotate_left; (try dsimp only); ((focus (first | omega | (simp; done) | (simp; omega))))) | (with_reducible refine Blk.drew ?_) | (with_reducible refine Blk.alloc ?_ _) | ((with_reducible refine Blk.below ?_ HX3.out ?_); rotate_left; ((focus (first | omega | (simp; done) | (simp; omega))))) | ((with_reducible refine Blk.below ?_ HX2.out ?_); rotate_left; ((focus (first | omega | (simp; done) | (simp; omega))))))))
                    have lqw22 := qw22.lt
                    have cqw220 : w2.cell? ⟨W.heap.size + 1, 0, none⟩ = some (.slice none 0 0) := (by rw [qw22.cell]; rfl)
                    have fqw220 : w2.frozen? ⟨W.heap.size + 1, 0, none⟩ = false := qw22.frozen 0
                    have cqw221 : w2.cell? ⟨W.heap.size + 1, 1, none⟩ = some (.slice none 0 0) := (by rw [qw22.cell]; rfl)
                    have fqw221 : w2.frozen? ⟨W.heap.size + 1, 1, none⟩ = false := qw22.frozen 1
                    clear qw22)
               try (refine cut_ (p := Blk w2 (W.heap.size + 1) 31 #[.int .i64 0, .bool false, .slice none 0 0, .bool false]) ?_ (fun qw23 => ?_)
                    · ((repeat (first | (with_reducible exact Blk.new _ _ _) | ((with_reducible refine Blk.new_ _ _ _ ?_); (focus (simp; done))) | (with_reducible refine blk2 (x := .slice none 0 0) (y := .slice none 0 0) ?_) | (with_reducible refine blk4 (x := .int .i64 0) (y := .bool false) (z := .slice none 0 0) (v := .bool false) ?_) | ((with_reducible refine Blk.far ?_ ?_ _); rotate_left; (try dsimp only); ((focus (first | omega | (simp; done) | (simp; omega))))) | (with_reducible refine Blk.drew ?_) | (with_reducible refine Blk.alloc ?_ _) | ((with_reducible refine Blk.below ?_ HX3.out ?_); rotate_left; ((focus (first | omega | (simp; done) | (simp; omega))))) | ((with_reducible refine Blk.below ?_ HX2.out ?_); rotate_left; ((focus (first | omega | (simp; done) | (simp; omega))))))))
                    have lqw23 := qw23.lt
                    have cqw230 : w2.cell? ⟨W.heap.size + 1, 0, none⟩ = some (.int .i64 0) := (by rw [qw23.cell]; rfl)
                    have fqw230 : w2.frozen? ⟨W.heap.size + 1, 0, none⟩ = false := qw23.frozen 0
                    have cqw231 : w2.cell? ⟨W.heap.size + 1, 1, none⟩ = some (.bool false) := (by rw [qw23.cell]; rfl)
                    have fqw231 : w2.frozen? ⟨W.heap.size + 1, 1, none⟩ = false := qw23.frozen 1
                    have cqw232 : w2.cell? ⟨W.heap.size + 1, 2, none⟩ = some (.slice none 0 0) := (by rw [qw23.cell]; rfl)
                    have fqw232 : w2.frozen? ⟨W.heap.size + 1, 2, none⟩ = false := qw23.frozen 2
                    have cqw233 : w2.cell? ⟨W.heap.size + 1, 3, none⟩ = some (.bool false) := (by rw [qw23.cell]; rfl)
                    have fqw233 : w2.frozen? ⟨W.heap.size + 1, 3, none⟩ = false := qw23.frozen 3
                    clear qw23)
               clear hb2)
            | (go_at_call 20
               refine (HSPEC.out _ (HTP.out _ (by repeat (first | (with_reducible exact Chg.refl _ _) | (with_reducible exact HC3.out) | (with_reducible exact HC2.out) | (with_reducible refine Chg.drewN ?_ _) | (with_reducible refine Chg.drew ?_) | (with_reducible refine Chg.alloc ?_ _) | ((with_reducible refine Chg.setCell ?_ (fun h9 => ?_) _); rotate_left; (try dsimp only at h9); focus (first | omega | (exfalso; simp at h9; done) | (exfalso; simp at h9; omega))))))).mono ?_
               rintro e w3 ⟨B0, B1, d0, d1, RA, rc, rfl, ht, hsl, hb3⟩
               unfold AnsD.cells
               have HT3 := hide ht
               have HS3 := hide hsl
               have HX3 := hide hb3
               have l3 := hb3.size
               have HC3 : Hid (Gr W w3) := Chg.trans (by repeat (first | (with_reducible exact Chg.refl _ _) | (with_reducible exact HC3.out) | (with_reducible exact HC2.out) | (with_reducible refine Chg.drewN ?_ _) | (with_reducible refine Chg.drew ?_) | (with_reducible refine Chg.alloc ?_ _) | ((with_reducible refine Chg.setCell ?_ (fun h9 => ?_) _); rotate_left; (try dsimp only at h9); focus (first | omega | (exfalso; simp at h9; done) | (exfalso; simp at h9; omega))))) (Gr.ofBelow hb3) (fun _ _ h => h)
               have lw3 : W.heap.size ≤ w3.heap.size := HC3.out.size
               try simp at l3
               try (refine cut_ (p := Blk w3 (W.heap.size) 49 #[.slice none 0 0, .slice none 0 0]) ?_ (fun qw30 => ?_)
                    · ((repeat (first | (with_reducible exact Blk.new _ _ _) | ((with_reducible refine Blk.new_ _ _ _ ?_); (focus (simp; done))) | (with_reducible refine blk2 (x := .slice none 0 0) (y := .slice none 0 0) ?_) | (with_reducible refine blk4 (x := .int .i64 0) (y := .bool false) (z := .slice none 0 0) (v := .bool false) ?_) | ((with_reducible refine Blk.far ?_ ?_ _); rotate_left; (try dsimp only); ((focus (first | omega | (simp; done) | (simp; omega))))) | (with_reducible refine Blk.drew ?_) | (with_reducible refine Blk.alloc ?_ _) | ((with_reducible refine Blk.below ?_ HX3.out ?_); rotate_left; ((focus (first | omega | (simp; done) | (simp; omega))))) | ((with_reducible refine Blk.below ?_ HX2.out ?_); rotate_left; ((focus (first | omega | (simp; done) | (simp; omega))))))))
                    have lqw30 := qw30.lt
                    have cqw300 : w3.cell? ⟨W.heap.size, 0, none⟩ = some (.slice none 0 0) := (by rw [qw30.cell]; rfl)
                    have fqw300 : w3.frozen? ⟨W.heap.size, 0, none⟩ = false := qw30.frozen 0
                    have cqw301 : w3.cell? ⟨W.heap.size, 1, none⟩ = some (.slice none 0 0) := (by rw [qw30.cell]; rfl)
                    have fqw301 : w3.frozen? ⟨W.heap.size, 1, none⟩ = false := qw30.frozen 1
                    clear qw30)
               try (refine cut_ (p := Blk w3 (W.heap.size) 31 #[.int .i64 0, .bool false, .slice none 0 0, .bool false]) ?_ (fun qw31 => ?_)
                    · ((repeat (first | (with_reducible exact Blk.new _ _ _) | ((with_reducible refine Blk.new_ _ _ _ ?_); (focus (simp; done))) | (with_reducible refine blk2 (x := .slice none 0 0) (y := .slice none 0 0) ?_) | (with_reducible refine blk4 (x := .int .i64 0) (y := .bool false) (z := .slice none 0 0) (v := .bool false) ?_) | ((with_reducible refine Blk.far ?_ ?_ _); rotate_left; (try dsimp only); ((focus (first | omega | (simp; done) | (simp; omega))))) | (with_reducible refine Blk.drew ?_) | (with_reducible refine Blk.alloc ?_ _) | ((with_reducible refine Blk.below ?_ HX3.out ?_); rotate_left; ((focus (first | omega | (simp; done) | (simp; omega))))) | ((with_reducible refine Blk.below ?_ HX2.out ?_); rotate_left; ((focus (first | omega | (simp; done) | (simp; omega))))))))
                    have lqw31 := qw31.lt
                    have cqw310 : w3.cell? ⟨W.heap.size, 0, none⟩ = some (.int .i64 0) := (by rw [qw31.cell]; rfl)
                    have fqw310 : w3.frozen? ⟨W.heap.size, 0, none⟩ = false := qw31.frozen 0
                    have cqw311 : w3.cell? ⟨W.heap.size, 1, none⟩ = some (.bool false) := (by rw [qw31.cell]; rfl)
                    have fqw311 : w3.frozen? ⟨W.heap.size, 1, none⟩ = false := qw31.frozen 1
                    have cqw312 : w3.cell? ⟨W.heap.size, 2, none⟩ = some (.slice none 0 0) := (by rw [qw31.cell]; rfl)
                    have fqw312 : w3.frozen? ⟨W.heap.size, 2, none⟩ = false := qw31.frozen 2
                    have cqw313 : w3.cell? ⟨W.heap.size, 3, none⟩ = some (.bool false) := (by rw [qw31.cell]; rfl)
                    have fqw313 : w3.frozen? ⟨W.heap.size, 3, none⟩ = false := qw31.frozen 3
                    clear qw31)
               try (refine cut_ (p := Blk w3 (W.heap.size + 1) 49 #[.slice none 0 0, .slice none 0 0]) ?_ (fun qw32 => ?_)
                    · ((repeat (first | (with_reducible exact Blk.new _ _ _) | ((with_reducible refine Blk.new_ _ _ _ ?_); (focus (simp; done))) | (with_reducible refine blk2 (x := .slice none 0 0) (y := .slice none 0 0) ?_) | (with_reducible refine blk4 (x := .int .i64 0) (y := .bool false) (z := .slice none 0 0) (v := .bool false) ?_) | ((with_reducible refine Blk.far ?_ ?_ _); rotate_left; (try dsimp only); ((focus (first | omega | (simp; done) | (simp; omega))))) | (with_reducible refine Blk.drew ?_) | (with_reducible refine Blk.alloc ?_ _) | ((with_reducible refine Blk.below ?_ HX3.out ?_); rotate_left; ((focus (first | omega | (simp; done) | (simp; omega))))) | ((with_reducible refine Blk.below ?_ HX2.out ?_); rotate_left; ((focus (first | omega | (simp; done) | (simp; omega))))))))
                    have lqw32 := qw32.lt
                    have cqw320 : w3.cell? ⟨W.heap.size + 1, 0, none⟩ = some (.slice none 0 0) := (by rw [qw32.cell]; rfl)
                    have fqw320 : w3.frozen? ⟨W.heap.size + 1, 0, none⟩ = false := qw32.frozen 0
                    have cqw321 : w3.cell? ⟨W.heap.size + 1, 1, none⟩ = some (.slice none 0 0) := (by rw [qw32.cell]; rfl)
                    have fqw321 : w3.frozen? ⟨W.heap.size + 1, 1, none⟩ = false := qw32.frozen 1
                    clear qw32)
               try (refine cut_ (p := Blk w3 (W.heap.size + 1) 31 #[.int .i64 0, .bool false, .slice none 0 0, .bool false]) ?_ (fun qw33 => ?_)
                    · ((repeat (first | (with_reducible exact Blk.new _ _ _) | ((with_reducible refine Blk.new_ _ _ _ ?_); (focus (simp; done))) | (with_reducible refine blk2 (x := .slice none 0 0) (y := .slice none 0 0) ?_) | (with_reducible refine blk4 (x := .int .i64 0) (y := .bool false) (z := .slice none 0 0) (v := .bool false) ?_) | ((with_reducible refine Blk.far ?_ ?_ _); rotate_left; (try dsimp only); ((focus (first | omega | (simp; done) | (simp; omega))))) | (with_reducible refine Blk.drew ?_) | (with_reducible refine Blk.alloc ?_ _) | ((with_reducible refine Blk.below ?_ HX3.out ?_); rotate_left; ((focus (first | omega | (simp; done) | (simp; omega))))) | ((with_reducible refine Blk.below ?_ HX2.out ?_); rotate_left; ((focus (first | omega | (simp; done) | (simp; omega))))))))
                    have lqw33 := qw33.lt
                    have cqw330 : w3.cell? ⟨W.heap.size + 1, 0, none⟩ = some (.int .i64 0) := (by rw [qw33.cell]; rfl)
                    have fqw330 : w3.frozen? ⟨W.heap.size + 1, 0, none⟩ = false := qw33.frozen 0
                    have cqw331 : w3.cell? ⟨W.heap.size + 1, 1, none⟩ = some (.bool false) := (by rw [qw33.cell]; rfl)
                    have fqw331 : w3.frozen? ⟨W.heap.size + 1, 1, none⟩ = false := qw33.frozen 1
                    have cqw332 : w3.cell? ⟨W.heap.size + 1, 2, none⟩ = some (.slice none 0 0) := (by rw [qw33.cell]; rfl)
                    have fqw332 : w3.frozen? ⟨W.heap.size + 1, 2, none⟩ = false := qw33.frozen 2
                    have cqw333 : w3.cell? ⟨W.heap.size + 1, 3, none⟩ = some (.bool false) := (by rw [qw33.cell]; rfl)
                    have fqw333 : w3.frozen? ⟨W.heap.size + 1, 3, none⟩ = false := qw33.frozen 3
                    clear qw33)
               try (refine cut_ (p := Blk w3 (w2.heap.size) 49 #[.slice none 0 0, .slice none 0 0]) ?_ (fun qw34 => ?_)
                    · ((repeat (first | (with_reducible exact Blk.new _ _ _) | ((with_reducible refine Blk.new_ _ _ _ ?_); (focus (simp; done))) | (with_reducible refine blk2 (x := .slice none 0 0) (y := .slice none 0 0) ?_) | (with_reducible refine blk4 (x := .int .i64 0) (y := .bool false) (z := .slice none 0 0) (v := .bool false) ?_) | ((with_reducible refine Blk.far ?_ ?_ _); rotate_left; (try dsimp only); ((focus (first | omega | (simp; done) | (simp; omega))))) | (with_reducible refine Blk.drew ?_) | (with_reducible refine Blk.alloc ?_ _) | ((with_reducible refine Blk.below ?_ HX3.out ?_); rotate_left; ((focus (first | omega | (simp; done) | (simp; omega))))) | ((with_reducible refine Blk.below ?_ HX2.out ?_); rotate_left; ((focus (first | omega | (simp; done) | (simp; omega))))))))
                    have lqw34 := qw34.lt
                    have cqw340 : w3.cell? ⟨w2.heap.size, 0, none⟩ = some (.slice none 0 0) := (by rw [qw34.cell]; rfl)
                    have fqw340 : w3.frozen? ⟨w2.heap.size, 0, none⟩ = false := qw34.frozen 0
                    have cqw341 : w3.cell? ⟨w2.heap.size, 1, none⟩ = some (.slice none 0 0) := (by rw [qw34.cell]; rfl)
                    have fqw341 : w3.frozen? ⟨w2.heap.size, 1, none⟩ = false := qw34.frozen 1
                    clear qw34)
               try (refine cut_ (p := Blk w3 (w2.heap.size) 31 #[.int .i64 0, .bool false, .slice none 0 0, .bool false]) ?_ (fun qw35 => ?_)
                    · ((repeat (first | (with_reducible exact Blk.new _ _ _) | ((with_reducible refine Blk.new_ _ _ _ ?_); (focus (simp; done))) | (with_reducible refine blk2 (x := .slice none 0 0) (y := .slice none 0 0) ?_) | (with_reducible refine blk4 (x := .int .i64 0) (y := .bool false) (z := .slice none 0 0) (v := .bool false) ?_) | ((with_reducible refine Blk.far ?_ ?_ _); rotate_left; (try dsimp only); ((focus (first | omega | (simp; done) | (simp; omega))))) | (with_reducible refine Blk.drew ?_) | (with_reducible refine Blk.alloc ?_ _) | ((with_reducible refine Blk.below ?_ HX3.out ?_); rotate_left; ((focus (first | omega | (simp; done) | (simp; omega))))) | ((with_reducible refine Blk.below ?_ HX2.out ?_); rotate_left; ((focus (first | omega | (simp; done) | (simp; omega))))))))
                    have lqw35 := qw35.lt
                    have cqw350 : w3.cell? ⟨w2.heap.size, 0, none⟩ = some (.int .i64 0) := (by rw [qw35.cell]; rfl)
                    have fqw350 : w3.frozen? ⟨w2.heap.size, 0, none⟩ = false := qw35.frozen 0
                    have cqw351 : w3.cell? ⟨w2.heap.size, 1, none⟩ = some (.bool false) := (by rw [qw35.cell]; rfl)
                    have fqw351 : w3.frozen? ⟨w2.heap.size, 1, none⟩ = false := qw35.frozen 1
                    have cqw352 : w3.cell? ⟨w2.heap.size, 2, none⟩ = some (.slice none 0 0) := (by rw [qw35.cell]; rfl)
                    have fqw352 : w3.frozen? ⟨w2.heap.size, 2, none⟩ = false := qw35.frozen 2
                    have cqw353 : w3.cell? ⟨w2.heap.size, 3, none⟩ = some (.bool false) := (by rw [qw35.cell]; rfl)
                    have fqw353 : w3.frozen? ⟨w2.heap.size, 3, none⟩ = false := qw35.frozen 3
                    clear qw35)
               try (refine cut_ (p := Blk w3 (w2.heap.size + 1) 49 #[.slice none 0 0, .slice none 0 0]) ?_ (fun qw36 => ?_)
                    · ((repeat (first | (with_reducible exact Blk.new _ _ _) | ((with_reducible refine Blk.new_ _ _ _ ?_); (focus (simp; done))) | (with_reducible refine blk2 (x := .slice none 0 0) (y := .slice none 0 0) ?_) | (with_reducible refine blk4 (x := .int .i64 0) (y := .bool false) (z := .slice none 0 0) (v := .bool false) ?_) | ((with_reducible refine Blk.far ?_ ?_ _); rotate_left; (try dsimp only); ((focus (first | omega | (simp; done) | (simp; omega))))) | (with_reducible refine Blk.drew ?_) | (with_reducible refine Blk.alloc ?_ _) | ((with_reducible refine Blk.below ?_ HX3.out ?_); rotate_left; ((focus (first | omega | (simp; done) | (simp; omega))))) | ((with_reducible refine Blk.below ?_ HX2.out ?_); rotate_left; ((focus (first | omega | (simp; done) | (simp; omega))))))))
                    have lqw36 := qw36.lt
                    have cqw360 : w3.cell? ⟨w2.heap.size + 1, 0, none⟩ = some (.slice none 0 0) := (by rw [qw36.cell]; rfl)
                    have fqw360 : w3.frozen? ⟨w2.heap.size + 1, 0, none⟩ = false := qw36.frozen 0
                    have cqw361 : w3.cell? ⟨w2.heap.size + 1, 1, none⟩ = some (.slice none 0 0) := (by rw [qw36.cell]; rfl)
                    have fqw361 : w3.frozen? ⟨w2.heap.size + 1, 1, none⟩ = false := qw36.frozen 1
                    clear qw36)
               try (refine cut_ (p := Blk w3 (w2.heap.size + 1) 31 #[.int .i64 0, .bool false, .slice none 0 0, .bool false]) ?_ (fun qw37 => ?_)
                    · ((repeat (first | (with_reducible exact Blk.new _ _ _) | ((with_reducible refine Blk.new_ _ _ _ ?_); (focus (simp; done))) | (with_reducible refine blk2 (x := .slice none 0 0) (y := .slice none 0 0) ?_) | (with_reducible refine blk4 (x := .int .i64 0) (y := .bool false) (z := .slice none 0 0) (v := .bool false) ?_) | ((with_reducible refine Blk.far ?_ ?_ _); rotate_left; (try dsimp only); ((focus (first | omega | (simp; done) | (simp; omega))))) | (with_reducible refine Blk.drew ?_) | (with_reducible refine Blk.alloc ?_ _) | ((with_reducible refine Blk.below ?_ HX3.out ?_); rotate_left; ((focus (first | omega | (simp; done) | (simp; omega))))) | ((with_reducible refine Blk.below ?_ HX2.out ?_); rotate_left; ((focus (first | omega | (simp; done) | (simp; omega))))))))
                    have lqw37 := qw37.lt
                    have cqw370 : w3.cell? ⟨w2.heap.size + 1, 0, none⟩ = some (.int .i64 0) := (by rw [qw37.cell]; rfl)
                    have fqw370 : w3.frozen? ⟨w2.heap.size + 1, 0, none⟩ = false := qw37.frozen 0
                    have cqw371 : w3.cell? ⟨w2.heap.size + 1, 1, none⟩ = some (.bool false) := (by rw [qw37.cell]; rfl)
                    have fqw371 : w3.frozen? ⟨w2.heap.size + 1, 1, none⟩ = false := qw37.frozen 1
                    have cqw372 : w3.cell? ⟨w2.heap.size + 1, 2, none⟩ = some (.slice none 0 0) := (by rw [qw37.cell]; rfl)
                    have fqw372 : w3.frozen? ⟨w2.heap.size + 1, 2, none⟩ = false := qw37.frozen 2
                    have cqw373 : w3.cell? ⟨w2.heap.size + 1, 3, none⟩ = some (.bool false) := (by rw [qw37.cell]; rfl)
                    have fqw373 : w3.frozen? ⟨w2.heap.size + 1, 3, none⟩ = false := qw37.frozen 3
                    clear qw37)
               clear ht hsl hb3)
            | fail))
        all_goals
          go_wp2_with fail
          go_meet
          case rel =>
            have lwz := HWZ.out
            refine ⟨_, _, B0, B1, d0, d1, RA, rc, rfl, rfl, rfl, ?_⟩
            show Reg wr w1.heap.size u6 B0 B1 d0 d1 (y0, y1) RA rc ⟨an, ao, al, ap⟩ _ _ _
            refine reg_of (w3 := w3) ?h9 ?h10 ?ch (HBW.out.trans (HC3.out.below.mono (by omega))) HT3.out HS3.out ?hn ?l9 ?l10 HMV.out.m.lt (fun i hi => (HI.out.want.own.lt i hi).2) ?c9 ?c10
            case h9 =>
              show Blk _ _ 49 #[.slice B0 y0.length d0, .slice B1 y1.length d1]
              (repeat (first | (with_reducible exact Blk.new _ _ _) | ((with_reducible refine Blk.new_ _ _ _ ?_); (focus (simp; done))) | (with_reducible refine blk2 (x := .slice none 0 0) (y := .slice none 0 0) ?_) | (with_reducible refine blk4 (x := .int .i64 0) (y := .bool false) (z := .slice none 0 0) (v := .bool false) ?_) | ((with_reducible refine Blk.far ?_ ?_ _); rotate_left; (try dsimp only); ((focus (first | omega | (simp; done) | (simp; omega))))) | (with_reducible refine Blk.drew ?_) | (with_reducible refine Blk.alloc ?_ _) | ((with_reducible refine Blk.below ?_ HX3.out ?_); rotate_left; ((focus (first | omega | (simp; done) | (simp; omega))))) | ((with_reducible refine Blk.below ?_ HX2.out ?_); rotate_left; ((focus (first | omega | (simp; done) | (simp; omega)))))))
            case h10 =>
              show Blk _ _ 31 #[.int .i64 an, .bool ao, .slice RA al.length rc, .bool ap]
              (repeat (first | (with_reducible exact Blk.new _ _ _) | ((with_reducible refine Blk.new_ _ _ _ ?_); (focus (simp; done))) | (with_reducible refine blk2 (x := .slice none 0 0) (y := .slice none 0 0) ?_) | (with_reducible refine blk4 (x := .int .i64 0) (y := .bool false) (z := .slice none 0 0) (v := .bool false) ?_) | ((with_reducible refine Blk.far ?_ ?_ _); rotate_left; (try dsimp only); ((focus (first | omega | (simp; done) | (simp; omega))))) | (with_reducible refine Blk.drew ?_) | (with_reducible refine Blk.alloc ?_ _) | ((with_reducible refine Blk.below ?_ HX3.out ?_); rotate_left; ((focus (first | omega | (simp; done) | (simp; omega))))) | ((with_reducible refine Blk.below ?_ HX2.out ?_); rotate_left; ((focus (first | omega | (simp; done) | (simp; omega)))))))
            case ch => repeat (first | (with_reducible exact Chg.refl _ _) | (with_reducible refine Chg.drew ?_) | (with_reducible refine Chg.alloc ?_ _) | ((with_reducible refine Chg.setCell ?_ ?_ _); rotate_left; first | exact fun _ => Or.inl rfl | exact fun _ => Or.inr rfl))
            case hn => (focus (first | omega | (simp; done) | (simp; omega)))
            case l9 => (focus (first | omega | (simp; done) | (simp; omega)))
            case l10 => (focus (first | omega | (simp; done) | (simp; omega)))
            case c9 =>
              first
                | (left; (focus (first | omega | (simp; done) | (simp; omega))))
                | (right; refine ⟨?_, #[.slice none 0 0, .slice none 0 0], ?_⟩; (focus (first | omega | (simp; done) | (simp; omega))); (repeat (first | (with_reducible exact Blk.new _ _ _) | ((with_reducible refine Blk.new_ _ _ _ ?_); (focus (simp; done))) | (with_reducible refine blk2 (x := .slice none 0 0) (y := .slice none 0 0) ?_) | (with_reducible refine blk4 (x := .int .i64 0) (y := .bool false) (z := .slice none 0 0) (v := .bool false) ?_) | ((with_reducible refine Blk.far ?_ ?_ _); rotate_left; (try dsimp only); ((focus (first | omega | (simp; done) | (simp; omega))))) | (with_reducible refine Blk.drew ?_) | (with_reducible refine Blk.alloc ?_ _) | ((with_reducible refine Blk.below ?_ HX3.out ?_); rotate_left; ((focus (first | omega | (simp; done) | (simp; omega))))) | ((with_reducible refine Blk.below ?_ HX2.out ?_); rotate_left; ((focus (first | omega | (simp; done) | (simp; omega))))))); done)
            case c10 =>
              first
                | (left; (focus (first | omega | (simp; done) | (simp; omega))))
                | (right; refine ⟨?_, #[.int .i64 0, .bool false, .slice none 0 0, .bool false], ?_⟩; (focus (first | omega | (simp; done) | (simp; omega))); (repeat (first | (with_reducible exact Blk.new _ _ _) | ((with_reducible refine Blk.new_ _ _ _ ?_); (focus (simp; done))) | (with_reducible refine blk2 (x := .slice none 0 0) (y := .slice none 0 0) ?_) | (with_reducible refine blk4 (x := .int .i64 0) (y := .bool false) (z := .slice none 0 0) (v := .bool false) ?_) | ((with_reducible refine Blk.far ?_ ?_ _); rotate_left; (try dsimp only); ((focus (first | omega | (simp; done) | (simp; omega))))) | (with_reducible refine Blk.drew ?_) | (with_reducible refine Blk.alloc ?_ _) | ((with_reducible refine Blk.below ?_ HX3.out ?_); rotate_left; ((focus (first | omega | (simp; done) | (simp; omega))))) | ((with_reducible refine Blk.below ?_ HX2.out ?_); rotate_left; ((focus (first | omega | (simp; done) | (simp; omega))))))); done)
      case rest =>
        obtain ⟨b9, b10, B0, B1, d0, d1, RA, rc, rfl, rfl, rfl, hR⟩ := hcut
        have HLI : Hid (LawI (stpF md) (fun _ _ => True) ([], []) S w wc j u6 P) := HI.out.below hR.out.bel
        cases fits
        · clear hR
          go_wp2_with fail
          go_meet
          case rel => exact ⟨j, P, hj, HLI.out⟩
        · have hm0 : Blk wc w1.heap.size 49 #[.slice A0 x0.length c0, .slice A1 x1.length c1] := HMV.out.m.below hR.out.bel HMV.out.m.lt
          have HRM := hide hm0
          have hno : ∀ i, u6.ownBlock = some i → ¬ i = w1.heap.size := own_ne HLI.out.want.own hm0
          have HNO := hide hno
          have hng : ¬ u6.ownBlock = some w1.heap.size := fun e => hno _ e rfl
          have HNG := hide hng
          have hlt6 := fun i (e : u6.ownBlock = some i) => (HI.out.want.own.lt i e).2
          have HKQ : Hid (∀ X, Chg (fun i => i = w1.heap.size ∨ u6.ownBlock = some i) wc X → X.cell? ⟨b9, 0, none⟩ = some (.slice B0 y0.length d0) ∧ X.cell? ⟨b9, 1, none⟩ = some (.slice B1 y1.length d1) ∧ X.cell? ⟨b10, 0, none⟩ = some (.int .i64 an) ∧ X.cell? ⟨b10, 1, none⟩ = some (.bool ao) ∧ X.cell? ⟨b10, 2, none⟩ = some (.slice RA al.length rc) ∧ X.cell? ⟨b10, 3, none⟩ = some (.bool ap)) := fun X hX => by
            have l9 := hR.out.l9
            have l10 := hR.out.l10
            have q9 := hR.out.q9.chg hX (fun e => e.elim (fun e => by omega) (fun e => by have := hlt6 _ e; omega))
            have q10 := hR.out.q10.chg hX (fun e => e.elim (fun e => by omega) (fun e => by have := hlt6 _ e; omega))
            exact ⟨(q9.cell 0).trans rfl, (q9.cell 1).trans rfl, (q10.cell 0).trans rfl, (q10.cell 1).trans rfl, (q10.cell 2).trans rfl, (q10.cell 3).trans rfl⟩
          obtain ⟨z0, z1, y0', y1', y2', y3'⟩ := HKQ.out wc (Chg.refl _ _)
          have g0 : wc.cell? ⟨w1.heap.size, 0, none⟩ = some (.slice A0 x0.length c0) := by rw [HRM.out.cell]; rfl
          have g1 : wc.cell? ⟨w1.heap.size, 1, none⟩ = some (.slice A1 x1.length c1) := by rw [HRM.out.cell]; rfl
          have f0 : wc.frozen? ⟨w1.heap.size, 0, none⟩ = false := HRM.out.frozen 0
          have f1 : wc.frozen? ⟨w1.heap.size, 1, none⟩ = false := HRM.out.frozen 1
          obtain ⟨m, hm⟩ : ∃ m, m = P.length := ⟨_, rfl⟩
          have hmj : m = j := by rw [hm]; exact HLI.out.len
          have hown := HLI.out.want.own
          rw [← hm] at hown
          have HOW := hide hown
          have HM := hide hm
          have HAN : Hid (((stpF md) (stF (stpF md) ([], []) (S.take j)) s).2 = some ⟨an, ao, al, ap⟩) := fm_ans HMV.out HSQ.out
          have hwc : wr.heap.size ≤ wc.heap.size := hR.out.bel.size
          have hwg : w.heap.size ≤ w1.heap.size := hs1
          clear hm0 hno hng hlt6 hm hown
          go_upto_region 12 with (fail)
          go_region_held3 (fun w' => w'.cell? ⟨b9, 0, none⟩ = some (.slice B0 y0.length d0) ∧ w'.cell? ⟨b9, 1, none⟩ = some (.slice B1 y1.length d1) ∧ w'.cell? ⟨b10, 0, none⟩ = some (.int .i64 an) ∧ w'.cell? ⟨b10, 1, none⟩ = some (.bool ao) ∧ w'.cell? ⟨b10, 2, none⟩ = some (.slice RA al.length rc) ∧ w'.cell? ⟨b10, 3, none⟩ = some (.bool ap))
            (exact HKQ.out _ (by (repeat (first | (with_reducible exact Chg.refl _ _) | (with_reducible exact HC6.out) | (with_reducible refine Chg.drewN ?_ _) | (with_reducible refine Chg.drew ?_) | (with_reducible refine Chg.alloc ?_ _) | ((with_reducible refine Chg.setCell (S := fun i => i = w1.heap.size ∨ u6.ownBlock = some i) ?_ (fun _ => Or.inl rfl) _))))))
            ((first
              | (refine step_appendB (by rfl) (.tmp 38) (.tmp 40) 26 (by rfl) w.heap.size 31 i0 _ 4 48 Try.underlying26 hinf hz0 hz1 hz2 rfl (by decide) u6 (by rfl) m (ansFlat P) (by exact own_chg HOW.out (S := fun i => i = w1.heap.size) (by (repeat (first | (with_reducible exact Chg.refl _ _) | (with_reducible refine Chg.drewN ?_ _) | (with_reducible refine Chg.drew ?_) | (with_reducible refine Chg.alloc ?_ _) | ((with_reducible refine Chg.setCell (S := fun i => i = w1.heap.size) ?_ (fun _ => rfl) _))))) HNO.out) (by simp; omega) ⟨wc.heap.size, 0, none⟩ 1 1 [.int .i64 an, .bool ao, .slice RA al.length rc, .bool ap] (by rfl) rfl (by exact news_blk (t := 31) (cs := #[.int .i64 an, .bool ao, .slice RA al.length rc, .bool ap]) (by (repeat (first | (with_reducible exact Blk.new _ _ _) | ((with_reducible refine Blk.far ?_ ?_ _); rotate_left; (try dsimp only); (focus omega)) | (with_reducible refine Blk.drew ?_) | (with_reducible refine Blk.alloc ?_ _))))) (four_one (a := ⟨an, ao, al, ap⟩)) (by unfold maxLen; omega) (by omega) ?_
                 intro v' w6 ho6 hc6 hv6
                 obtain ⟨cur, hc7, hcg, hv7⟩ : ∃ cur, Chg (fun i => u6.ownBlock = some i) cur w6 ∧ Chg (fun i => i = w1.heap.size) wc cur ∧ (v'.ownBlock = u6.ownBlock ∨ v'.ownBlock = some cur.heap.size) := ⟨_, hc6, by (repeat (first | (with_reducible exact Chg.refl _ _) | (with_reducible refine Chg.drewN ?_ _) | (with_reducible refine Chg.drew ?_) | (with_reducible refine Chg.alloc ?_ _) | ((with_reducible refine Chg.setCell (S := fun i => i = w1.heap.size) ?_ (fun _ => rfl) _)))), hv6⟩
                 have HC6 : Hid (Chg (fun i => i = w1.heap.size ∨ u6.ownBlock = some i) wc w6) := (hcg.mono (fun _ _ e => Or.inl e)).trans hc7 (fun _ _ e => Or.inr e)
                 have HV6 : Hid (v'.ownBlock = u6.ownBlock ∨ ∀ i, v'.ownBlock = some i → wc.heap.size ≤ i) := hv7.imp id (fun e i hi => by
                   rw [e] at hi
                   injection hi with hi
                   rw [← hi]
                   exact hcg.size)
                 have HL6 : Hid (LawI (stpF md) (fun _ _ => True) ([], []) S w w6 (j + 1) v' (P ++ [(⟨an, ao, al, ap⟩, .slice RA al.length rc)])) := by
                   rw [HM.out] at ho6
                   exact fm_next HLI.out hcg HRM.out hwg HTS.out HAN.out hR.out.row ho6 hc7
                 first
                   | (refine cut_ (p := Hid (Blk w6 w1.heap.size 49 #[.slice B0 y0.length d0, .slice B1 y1.length d1])) ?_ (fun HG6 => ?_)
                      · show Blk _ _ _ _
                        refine Blk.chg ?_ hc6 HNG.out
                        (repeat (first | (with_reducible exact HRM.out) | (with_reducible refine blk2 (x := .slice A0 x0.length c0) (y := .slice A1 x1.length c1) ?_) | (with_reducible refine Blk.drew ?_) | (with_reducible refine Blk.alloc ?_ _))))
                   | (refine cut_ (p := Hid (Blk w6 w1.heap.size 49 #[.slice A0 x0.length c0, .slice A1 x1.length c1])) ?_ (fun HG6 => ?_)
                      · show Blk _ _ _ _
                        refine Blk.chg ?_ hc6 HNG.out
                        (repeat (first | (with_reducible exact HRM.out) | (with_reducible refine blk2 (x := .slice A0 x0.length c0) (y := .slice A1 x1.length c1) ?_) | (with_reducible refine Blk.drew ?_) | (with_reducible refine Blk.alloc ?_ _)))
                      have gg0 : w6.cell? ⟨w1.heap.size, 0, none⟩ = some (.slice A0 x0.length c0) := (by rw [HG6.out.cell]; rfl)
                      have gg1 : w6.cell? ⟨w1.heap.size, 1, none⟩ = some (.slice A1 x1.length c1) := (by rw [HG6.out.cell]; rfl)
                      have ff0 : w6.frozen? ⟨w1.heap.size, 0, none⟩ = false := HG6.out.frozen 0
                      have ff1 : w6.frozen? ⟨w1.heap.size, 1, none⟩ = false := HG6.out.frozen 1)
                 clear ho6 hc6 hv6 hcg hc7 hv7)
              | fail))
          all_goals
            go_wp2_with fail
            go_roundw
            case measure => simp [intOf]; omega
            case rel =>
              refine ⟨j + 1, B0, B1, d0, d1, (y0, y1), P ++ [(⟨an, ao, al, ap⟩, .slice RA al.length rc)], by omega, by go_num, ?_, ?_⟩
              · refine (mv_next HMV.out hR.out HSQ.out HTS.out ?_ ?_ HV6.out).1
                · first
                    | exact HG6.out
                    | exact blk2 HG6.out
                · (repeat (first | (with_reducible exact Chg.refl _ _) | (with_reducible exact HC6.out) | (with_reducible refine Chg.drewN ?_ _) | (with_reducible refine Chg.drew ?_) | (with_reducible refine Chg.alloc ?_ _) | ((with_reducible refine Chg.setCell (S := fun i => i = w1.heap.size ∨ u6.ownBlock = some i) ?_ (fun _ => Or.inl rfl) _))))
              · exact HL6.out.chgT (T := fun i => i = w1.heap.size) (by (repeat (first | (with_reducible exact Chg.refl _ _) | (with_reducible refine Chg.drewN ?_ _) | (with_reducible refine Chg.drew ?_) | (with_reducible refine Chg.alloc ?_ _) | ((with_reducible refine Chg.setCell (S := fun i => i = w1.heap.size) ?_ (fun _ => rfl) _))))) (own_ne HL6.out.want.own HG6.out) (fun i cs hb e => hb.ne_ HG6.out (by decide) e) (fun i e => by omega)
    · go_wp2_with fail
      go_meet
      case rel => exact ⟨j, P, hj, HI.out⟩

set_option linter.unusedVariables false in
set_option maxHeartbeats 2000000 in
set_option maxRecDepth 100000 in
theorem fnMaps_none (md : Int) (w : World) (hmd : okI md) :
    Calls Try.prog 8 #[.int .i64 md, .slice none 0 0] w fun e w' => e = .returned (.bool true) ∧ Below w.heap.size w w' := by
  have hs : ∀ W, StepsIn W (fun _ => True) none 0 [] := fun W => ⟨rfl, fun i hi => by omega⟩
  have hfits := fits4_any _ none 0 0 [] w (hs w) (by simp [maxLen])
  have hfit : fitsS 0 [] = true := by simp [fitsS]
  rw [hfit] at hfits
  clear hfit
  go_enter Try.func8, Try.ntmps8
  go_wp2_with fail
  refine hfits.mono ?_
  clear hfits
  rintro e w1 ⟨rfl, hb1⟩
  have HB1 := hide (hb1.alloc hb1.size (.cells #[.slice none 0 0, .slice none 0 0] 49))
  clear hb1
  go_wp2
  refine wp_loop_rounds 1 ?_
  rw [rounds_succ]
  go_wp2_with fail
  generalize w1.alloc (.cells #[.slice none 0 0, .slice none 0 0] 49) = W at *
  have hcall := maps_own md none 0 0 [] W hmd (hs W) (by omega) trivial
  refine hcall.mono ?_
  clear hcall
  rintro e w2 ⟨v, PG, rfl, hmap, hout, hb3⟩
  have hP0 : PG = [] := List.map_eq_nil_iff.1 hmap
  subst hP0
  obtain ⟨RA, rc, rfl, hRm, hans2⟩ := hout.ansIn
  have HA2 : Hid (AnsIn w2 RA 0 []) := hans2
  have HB3 := hide hb3
  have hsz3 := hb3.size
  have hsz1 := HB1.out.size
  clear hout hans2 hb3 hmap
  show (match (Ending.returned (.slice RA 0 rc)), w2 with | _, _ => _)
  go_wp2_with fail
  refine wp_loop_rounds 1 ?_
  rw [rounds_succ]
  go_wp2_with fail
  refine (alike_eq RA none 0 rc 0 [] w2 HA2.out ⟨rfl, fun i hi => by omega⟩ (by simp [maxLen])).mono ?_
  rintro e w9 ⟨rfl, hb9⟩
  have HB10 := hide hb9
  have hsz9 := hb9.size
  clear hb9
  go_wp2_with fail
  refine (works_any w9).mono ?_
  rintro e w10 ⟨rfl, hb4⟩
  have HB11 := hide hb4
  clear hb4
  go_wp2
  go_ret
  exact ⟨rfl, HB1.out.trans ((HB3.out.mono hsz1).trans ((HB10.out.mono (by omega)).trans (HB11.out.mono (by omega))))⟩

set_option maxHeartbeats 1000000 in
theorem fnMaps_rest (md : Int) (A : Option Addr) (k c : Nat) (S : List StepD) (w : World) (hs : StepsIn w (fun _ => True) A k S) (hk : k ≤ maxLen) (hfit : fitsS k S = true) (h : 300 < k) :
    Calls Try.prog 8 #[.int .i64 md, .slice A k c] w fun e w' => e = .returned (.bool true) ∧ Below w.heap.size w w' := by
  have hfits := fits4_any _ A k c S w hs hk
  rw [hfit] at hfits
  have hkk : (300 : Int) < (k : Int) := by omega
  have hk2 := hk
  unfold maxLen at hk2
  clear hs hfit
  go_enter Try.func8, Try.ntmps8
  go_wp2_with fail
  refine hfits.mono ?_
  rintro e w1 ⟨rfl, hb1⟩
  have HB1 := hide hb1
  have hs1 := hb1.size
  clear hb1 hfits
  go_wp2_with fail
  refine (works_any w1).mono ?_
  rintro e w2 ⟨rfl, hb2⟩
  have HB2 := hide hb2
  clear hb2
  go_wp2
  go_ret
  exact ⟨rfl, HB1.out.trans (HB2.out.mono hs1)⟩

set_option maxHeartbeats 1000000 in
theorem fnMaps_any (md : Int) (A : Option Addr) (k c : Nat) (S : List StepD) (w : World) (hmd : okI md) (hs : StepsIn w (fun _ => True) A k S) (hk : k ≤ maxLen) (hkc : k ≤ c) (hcm : c ≤ maxLen) (hnil : A = none → c = 0) :
    Calls Try.prog 8 #[.int .i64 md, .slice A k c] w fun e w' => e = .returned (.bool true) ∧ Below w.heap.size w w' := by
  by_cases hfit : fitsS k S = true
  · by_cases h3 : 300 < k
    · exact fnMaps_rest md A k c S w hs hk hfit h3
    · cases A with
      | none =>
        have hc := hnil rfl
        subst hc
        have hk0 : k = 0 := by omega
        subst hk0
        exact fnMaps_none md w hmd
      | some ad => exact fnMaps_some md ad k c S w hmd hs hk hkc hcm hfit (by omega)
  · have hfit' : fitsS k S = false := by simpa using hfit
    have hfits := fits4_any _ A k c S w hs hk
    rw [hfit'] at hfits
    have hk2 := hk
    unfold maxLen at hk2
    clear hfit hfit' hs
    go_enter Try.func8, Try.ntmps8
    go_wp2_with fail
    refine hfits.mono ?_
    rintro e w1 ⟨rfl, hb1⟩
    have HB1 := hide hb1
    clear hb1 hfits
    go_wp2_with fail
    go_ret
    exact ⟨rfl, HB1.out⟩

end Go.Proofs.Ytammpllfmbmdmaa
