/- spec.Maps at the list 0: steps of the kinds 2,6. Under sizes alone. Printed by gen_sp.py. -/
import Derived.Test.YtammpllfmbmdmaaSp5
import Derived.Deep.RegionHeld3
import Derived.StillTailTactics
import Derived.Deep.Cut
namespace Go.Proofs.Ytammpllfmbmdmaa
open Go.RowKit

set_option linter.unusedVariables false in
set_option linter.unusedSimpArgs false in
set_option maxHeartbeats 2000000 in
set_option maxRecDepth 100000 in
theorem spm0_2 (Kx : Nat → Prop) (A0 A1 A : Option Addr) (c0 c1 c : Nat) (l0 l1 : List (Int × Int)) (s : StepD) (w : World) (hz0 : l0.length ≤ 274877906944) (hz1 : l1.length ≤ 274877906944) (h : TwoIn w Kx A0 A1 c0 c1 (l0, l1)) (hwh : s.which = 0) (hwhat : s.what = 2) :
    Calls Try.prog 20 #[.agg #[.slice A0 l0.length c0, .slice A1 l1.length c1], .agg (s.cells (.slice A s.list.length c))] w (SpecM Kx (specM (l0, l1) s) w) := by
  have hW := spW w (.slice A0 l0.length c0) (.slice A1 l1.length c1) (s.cells (.slice A s.list.length c))
  have hT : TwoIn _ (Lo Kx w.heap.size) A0 A1 c0 c1 (l0, l1) := h.lo.keep hW.bel.size (fun p hp _ => hW.bel.cell hp)
  clear h
  unfold StepD.cells at *
  rw [hwhat, hwh] at hW hT ⊢
  have HW := hide hW
  have HT := hide hT
  clear hW hT
  go_enter Try.func20, Try.ntmps20
  go_wp2_with fail
  generalize (((w.alloc (.cells #[.slice A0 l0.length c0, .slice A1 l1.length c1] 49)).alloc (.cells #[.int .i64 2, .int .i64 0, .int .i64 s.index, .int .i64 s.bit, .int .i64 s.n, .int .i64 s.key, .int .i64 s.value, .slice A s.list.length c] 34)).alloc (.cells #[.slice none 0 0, .slice none 0 0] 49)).alloc (.cells #[.int .i64 0, .bool false, .slice none 0 0, .bool false] 31) = W at *
  have m0 : W.cell? ⟨w.heap.size, 0, none⟩ = some (.slice A0 l0.length c0) := by rw [HW.out.m.cell]; rfl
  have m1 : W.cell? ⟨w.heap.size, 1, none⟩ = some (.slice A1 l1.length c1) := by rw [HW.out.m.cell]; rfl
  have s0 : W.cell? ⟨w.heap.size + 1, 0, none⟩ = some (.int .i64 2) := by rw [HW.out.s.cell]; rfl
  have s1 : W.cell? ⟨w.heap.size + 1, 1, none⟩ = some (.int .i64 0) := by rw [HW.out.s.cell]; rfl
  have s5 : W.cell? ⟨w.heap.size + 1, 5, none⟩ = some (.int .i64 s.key) := by rw [HW.out.s.cell]; rfl
  have s6 : W.cell? ⟨w.heap.size + 1, 6, none⟩ = some (.int .i64 s.value) := by rw [HW.out.s.cell]; rfl
  have ra0 : W.cell? ⟨w.heap.size + 2, 0, none⟩ = some (.slice none 0 0) := by rw [HW.out.r0.cell]; rfl
  have raf0 := HW.out.r0.frozen 0
  have ra1 : W.cell? ⟨w.heap.size + 2, 1, none⟩ = some (.slice none 0 0) := by rw [HW.out.r0.cell]; rfl
  have raf1 := HW.out.r0.frozen 1
  have rb0 : W.cell? ⟨w.heap.size + 3, 0, none⟩ = some (.int .i64 0) := by rw [HW.out.r1.cell]; rfl
  have rbf0 := HW.out.r1.frozen 0
  have rb1 : W.cell? ⟨w.heap.size + 3, 1, none⟩ = some (.bool false) := by rw [HW.out.r1.cell]; rfl
  have rbf1 := HW.out.r1.frozen 1
  have rb2 : W.cell? ⟨w.heap.size + 3, 2, none⟩ = some (.slice none 0 0) := by rw [HW.out.r1.cell]; rfl
  have rbf2 := HW.out.r1.frozen 2
  have rb3 : W.cell? ⟨w.heap.size + 3, 3, none⟩ = some (.bool false) := by rw [HW.out.r1.cell]; rfl
  have rbf3 := HW.out.r1.frozen 3
  go_quiet (fail)
  have hfa := find_any (Lo Kx w.heap.size) A0 l0.length c0 l0 s.key (W.drewN nq) (HT.out.p0.keep (Nat.le_refl _) (fun _ _ _ => rfl)) (by omega)
  have HFA := hide hfa
  clear hfa
  go_wp2_with fail
  refine HFA.out.mono ?_
  rintro e w3 ⟨rfl, hb3⟩
  have hbW : Below W.heap.size W w3 := ⟨hb3.os, hb3.tape, hb3.output, hb3.size, hb3.block⟩
  have m0 : w3.cell? ⟨w.heap.size, 0, none⟩ = some (.slice A0 l0.length c0) := by rw [(HW.out.m.below hbW HW.out.m.lt).cell]; rfl
  have m1 : w3.cell? ⟨w.heap.size, 1, none⟩ = some (.slice A1 l1.length c1) := by rw [(HW.out.m.below hbW HW.out.m.lt).cell]; rfl
  have hr0 := HW.out.r0.below hbW HW.out.r0.lt
  have hr1 := HW.out.r1.below hbW HW.out.r1.lt
  have hmm := HW.out.m.below hbW HW.out.m.lt
  have hss := HW.out.s.below hbW HW.out.s.lt
  have HR0 := hide hr0
  have HR1 := hide hr1
  have HT3 : Hid (TwoIn w3 (Lo Kx w.heap.size) A0 A1 c0 c1 (l0, l1)) := HT.out.below hbW
  have HB3 : Hid (Below w.heap.size w w3) := HW.out.bel.trans (hbW.mono HW.out.bel.size)
  clear hb3 hbW
  have ra0 : w3.cell? ⟨w.heap.size + 1 + 1, 0, none⟩ = some (.slice none 0 0) := by rw [hr0.cell]; rfl
  have raf0 : w3.frozen? ⟨w.heap.size + 1 + 1, 0, none⟩ = false := hr0.frozen 0
  have ra1 : w3.cell? ⟨w.heap.size + 1 + 1, 1, none⟩ = some (.slice none 0 0) := by rw [hr0.cell]; rfl
  have raf1 : w3.frozen? ⟨w.heap.size + 1 + 1, 1, none⟩ = false := hr0.frozen 1
  have rb0 : w3.cell? ⟨w.heap.size + 1 + 1 + 1, 0, none⟩ = some (.int .i64 0) := by rw [hr1.cell]; rfl
  have rbf0 : w3.frozen? ⟨w.heap.size + 1 + 1 + 1, 0, none⟩ = false := hr1.frozen 0
  have rb1 : w3.cell? ⟨w.heap.size + 1 + 1 + 1, 1, none⟩ = some (.bool false) := by rw [hr1.cell]; rfl
  have rbf1 : w3.frozen? ⟨w.heap.size + 1 + 1 + 1, 1, none⟩ = false := hr1.frozen 1
  have rb2 : w3.cell? ⟨w.heap.size + 1 + 1 + 1, 2, none⟩ = some (.slice none 0 0) := by rw [hr1.cell]; rfl
  have rbf2 : w3.frozen? ⟨w.heap.size + 1 + 1 + 1, 2, none⟩ = false := hr1.frozen 2
  have rb3 : w3.cell? ⟨w.heap.size + 1 + 1 + 1, 3, none⟩ = some (.bool false) := by rw [hr1.cell]; rfl
  have rbf3 : w3.frozen? ⟨w.heap.size + 1 + 1 + 1, 3, none⟩ = false := hr1.frozen 3
  clear hr0 hr1
  have HMM : Hid (Blk w3 w.heap.size 49 #[.slice A0 l0.length c0, .slice A1 l1.length c1]) := hmm
  have s1 : w3.cell? ⟨w.heap.size + 1, 1, none⟩ = some (.int .i64 0) := by rw [hss.cell]; rfl
  have s5 : w3.cell? ⟨w.heap.size + 1, 5, none⟩ = some (.int .i64 s.key) := by rw [hss.cell]; rfl
  have s6 : w3.cell? ⟨w.heap.size + 1, 6, none⟩ = some (.int .i64 s.value) := by rw [hss.cell]; rfl
  cases hf : findI l0 s.key with
  | none =>
    have hfz : findZ l0 s.key = -1 := by unfold findZ; rw [hf]
    have hde : delS l0 s.key = l0 := by unfold delS; rw [hf]
    rw [hfz]
    have HR : Hid (specM (l0, l1) s = ((l0, l1), zeroAns, true)) := by show _ = _; simp [specM, spC, hwh, hwhat, hde]
    have HSIX : Hid (Blk (((((((w3).setCell ⟨w.heap.size + 1 + 1, 0, none⟩ (.slice A0 l0.length c0)).setCell ⟨w.heap.size + 1 + 1, 1, none⟩ (.slice A1 l1.length c1)).setCell ⟨w.heap.size + 1 + 1 + 1, 0, none⟩ (.int .i64 0)).setCell ⟨w.heap.size + 1 + 1 + 1, 1, none⟩ (.bool false)).setCell ⟨w.heap.size + 1 + 1 + 1, 2, none⟩ (.slice none 0 0)).setCell ⟨w.heap.size + 1 + 1 + 1, 3, none⟩ (.bool false)) (w.heap.size + 1 + 1) 49 #[.slice A0 l0.length c0, .slice A1 l1.length c1] ∧ Blk (((((((w3).setCell ⟨w.heap.size + 1 + 1, 0, none⟩ (.slice A0 l0.length c0)).setCell ⟨w.heap.size + 1 + 1, 1, none⟩ (.slice A1 l1.length c1)).setCell ⟨w.heap.size + 1 + 1 + 1, 0, none⟩ (.int .i64 0)).setCell ⟨w.heap.size + 1 + 1 + 1, 1, none⟩ (.bool false)).setCell ⟨w.heap.size + 1 + 1 + 1, 2, none⟩ (.slice none 0 0)).setCell ⟨w.heap.size + 1 + 1 + 1, 3, none⟩ (.bool false)) (w.heap.size + 1 + 1 + 1) 31 #[.int .i64 0, .bool false, .slice none 0 0, .bool false] ∧ Chg (fun i => i = w.heap.size + 1 + 1 ∨ i = w.heap.size + 1 + 1 + 1) (w3) (((((((w3).setCell ⟨w.heap.size + 1 + 1, 0, none⟩ (.slice A0 l0.length c0)).setCell ⟨w.heap.size + 1 + 1, 1, none⟩ (.slice A1 l1.length c1)).setCell ⟨w.heap.size + 1 + 1 + 1, 0, none⟩ (.int .i64 0)).setCell ⟨w.heap.size + 1 + 1 + 1, 1, none⟩ (.bool false)).setCell ⟨w.heap.size + 1 + 1 + 1, 2, none⟩ (.slice none 0 0)).setCell ⟨w.heap.size + 1 + 1 + 1, 3, none⟩ (.bool false))) := sp_six (g := w.heap.size) (E := w3) HR0.out HR1.out (.slice A0 l0.length c0) (.slice A1 l1.length c1) (.int .i64 0) (.bool false) (.slice none 0 0) (.bool false)
    go_wp2
    generalize (((((((w3).setCell ⟨w.heap.size + 1 + 1, 0, none⟩ (.slice A0 l0.length c0)).setCell ⟨w.heap.size + 1 + 1, 1, none⟩ (.slice A1 l1.length c1)).setCell ⟨w.heap.size + 1 + 1 + 1, 0, none⟩ (.int .i64 0)).setCell ⟨w.heap.size + 1 + 1 + 1, 1, none⟩ (.bool false)).setCell ⟨w.heap.size + 1 + 1 + 1, 2, none⟩ (.slice none 0 0)).setCell ⟨w.heap.size + 1 + 1 + 1, 3, none⟩ (.bool false)) = w9 at *
    have z0 : w9.cell? ⟨w.heap.size + 1 + 1, 0, none⟩ = some (.slice A0 l0.length c0) := by rw [HSIX.out.1.cell]; rfl
    have z1 : w9.cell? ⟨w.heap.size + 1 + 1, 1, none⟩ = some (.slice A1 l1.length c1) := by rw [HSIX.out.1.cell]; rfl
    have y0 : w9.cell? ⟨w.heap.size + 1 + 1 + 1, 0, none⟩ = some (.int .i64 0) := by rw [HSIX.out.2.1.cell]; rfl
    have y1 : w9.cell? ⟨w.heap.size + 1 + 1 + 1, 1, none⟩ = some (.bool false) := by rw [HSIX.out.2.1.cell]; rfl
    have y2 : w9.cell? ⟨w.heap.size + 1 + 1 + 1, 2, none⟩ = some (.slice none 0 0) := by rw [HSIX.out.2.1.cell]; rfl
    have y3 : w9.cell? ⟨w.heap.size + 1 + 1 + 1, 3, none⟩ = some (.bool false) := by rw [HSIX.out.2.1.cell]; rfl
    refine bodyPost_ret (v := .tuple #[.agg #[.slice A0 l0.length c0, .slice A1 l1.length c1], .agg #[.int .i64 0, .bool false, .slice none 0 0, .bool false], .bool true]) ?_ rfl ?_
    · simp [results, Try.f20, go_sem, z0, z1, y0, y1, y2, y3]
    · exact sp_fin (E := w3) (x := (l0, l1)) (ans := zeroAns) (okb := true) HR.out HR0.out HR1.out HT3.out.notR rfl SliceIs.none_ HB3.out HSIX.out.2.2
  | some i =>
    have hfz : findZ l0 s.key = (i : Int) := by unfold findZ; rw [hf]
    obtain ⟨D, hD⟩ : ∃ D, D = l0.take i ++ l0.drop (i + 1) := ⟨_, rfl⟩
    have hde : delS l0 s.key = D := by rw [hD]; unfold delS; rw [hf]
    obtain ⟨v, hli, hlk⟩ := (find_lookup l0 s.key).1 i hf
    have hil : i < l0.length := (List.getElem?_eq_some_iff.1 hli).1
    have hi0 : (0 : Int) ≤ (i : Int) := by omega
    have hi1 : (i : Int) < (l0.length : Int) := by omega
    rw [hfz]
    have HR : Hid (specM (l0, l1) s = ((D, l1), zeroAns, true)) := by show _ = _; simp [specM, spC, hwh, hwhat, hde]
    obtain ⟨ad, hA, _, hadl, _⟩ := HT3.out.p0.reads.2 (by show 0 < l0.length; omega)
    have hA : A0 = some ad := hA
    subst hA
    have HR2 := hide (HT3.out.p0.two hil)
    have hcap := HT3.out.p0.cap
    have hmx := HT3.out.p0.max
    unfold maxLen at hmx
    simp only at hcap hmx
    have hic : i ≤ c0 := by omega
    have hil' : i ≤ l0.length := by omega
    have hi2 : (i : Int) ≤ (l0.length : Int) := by omega
    have hi3 : (i : Int) ≤ (c0 : Int) := by omega
    have hic2 : i + 1 ≤ l0.length := by omega
    have hic4 : 0 ≤ (i : Int) + 1 := by omega
    have hic3 : (i : Int) + 1 ≤ (l0.length : Int) := by omega
    have hw1 : IntKind.i64.wrap ((i : Int) + 1) = (i : Int) + 1 := by rw [IntKind.wrap_i64]; omega
    have hQ0 : SpE w w3 (.slice (some ad) l0.length c0) (.slice A1 l1.length c1) := ⟨HB3.out, HMM.out, HR0.out, HR1.out⟩
    have HE := hide hQ0
    have HD := hide hD
    clear hQ0 hf hfz hde hli hlk hD
    have HKP : Hid (∀ X, Chg (fun i => i = w.heap.size) w3 X → X.cell? ⟨w.heap.size + 1, 1, none⟩ = some (.int .i64 0) ∧ X.cell? ⟨w.heap.size + 1, 5, none⟩ = some (.int .i64 s.key) ∧ X.cell? ⟨w.heap.size + 1, 6, none⟩ = some (.int .i64 s.value)) := fun X hX => by
      have hgl : w.heap.size + 1 < w3.heap.size := by have := HR1.out.lt; omega
      exact ⟨(hX.cell (p := ⟨w.heap.size + 1, 1, none⟩) hgl (fun h => by have h9 : w.heap.size + 1 = w.heap.size := h; omega)).trans s1, (hX.cell (p := ⟨w.heap.size + 1, 5, none⟩) hgl (fun h => by have h9 : w.heap.size + 1 = w.heap.size := h; omega)).trans s5, (hX.cell (p := ⟨w.heap.size + 1, 6, none⟩) hgl (fun h => by have h9 : w.heap.size + 1 = w.heap.size := h; omega)).trans s6⟩
    obtain ⟨i9, hi9, h90, h91, h92⟩ := info_parts info91
    obtain ⟨ad9, hA9, hr9⟩ : ∃ a9 : Addr, (if c0 = i + 1 then some ad else some ⟨ad.block, ad.off + (i + 1) * 2, none⟩) = some a9 ∧ a9.block < w3.heap.size ∧ ∀ j u, (pfl (l0.drop (i + 1)))[j]? = some u → w3.cell? (a9.add j) = some u := by
      by_cases hci : c0 = i + 1
      · refine ⟨ad, by rw [if_pos hci], by have := HE.out.size; omega, fun j u hu => ?_⟩
        have h9 : l0.drop (i + 1) = [] := List.drop_eq_nil_iff.2 (by omega)
        rw [h9] at hu; simp [pfl] at hu
      · refine ⟨ad.add ((i + 1) * 2), by rw [if_neg hci]; unfold Addr.add; rw [if_neg (by omega)], by rw [block_of_add]; have := HE.out.size; omega, fun j u hu => ?_⟩
        by_cases hn0 : 0 < l0.length - (i + 1)
        · obtain ⟨ad', e9, _, _, hcs⟩ := HR2.out.2.2 hn0
          cases e9; exact hcs j u hu
        · have h9 : l0.drop (i + 1) = [] := List.drop_eq_nil_iff.2 (by omega)
          rw [h9] at hu; simp [pfl] at hu
    have hA9' : (if c0 = i + 1 then some ad else some (ad.add ((i + 1) * 2))) = some ad9 := by rw [← hA9]; unfold Addr.add; rw [if_neg (show ¬ (i + 1) * 2 = 0 by omega)]
    have HR9 := hide hr9
    clear hr9
    have HRD : Hid (∀ X, Gr w3 X → Reads X (Lo Kx w.heap.size) 2 (some ad) i (pfl (l0.take i))) := fun X hX => HR2.out.1.keep hX.size (fun p hp hk => hX.cell hp)
    go_wp2_with fail
    go_region_held3 (fun w' => w'.cell? ⟨w.heap.size + 1, 1, none⟩ = some (.int .i64 0) ∧ w'.cell? ⟨w.heap.size + 1, 5, none⟩ = some (.int .i64 s.key) ∧ w'.cell? ⟨w.heap.size + 1, 6, none⟩ = some (.int .i64 s.value))
      (exact HKP.out _ (by repeat (first | (with_reducible exact Chg.refl _ _) | (with_reducible exact HC3.out) | (with_reducible refine Chg.drewN ?_ _) | (with_reducible refine Chg.drew ?_) | (with_reducible refine Chg.alloc ?_ _) | (with_reducible refine Chg.setCell (S := fun i => i = w.heap.size) ?_ (fun _ => rfl) _))))
      ((first
        | (refine step_append0 (by rfl) (.tmp 73) (.tmp 76) 48 (by rfl) w3.heap.size 91 i9 _ 2 16 Try.underlying48 hi9 h90 h91 h92 rfl (by decide) w3.heap.size (by rfl) (by exact Blk.new _ _ _) (Nat.le_refl _) (some ad) i c0 (pfl (l0.take i)) (Lo Kx w.heap.size) (by rfl) (HRD.out _ (by repeat (first | (with_reducible exact Chg.refl _ _) | (with_reducible refine Chg.drewN ?_ _) | (with_reducible refine Chg.drew ?_) | (with_reducible refine Chg.alloc ?_ _)))) (pfl_one _) (fun h => by cases h) (by unfold maxLen; omega) (by omega) ?_
           intro v1 w4 ho1 hg1
           have HO1 := hide ho1
           have HG1 : Hid (Gr w3 w4) := Chg.trans (by repeat (first | (with_reducible exact Chg.refl _ _) | (with_reducible refine Chg.drewN ?_ _) | (with_reducible refine Chg.drew ?_) | (with_reducible refine Chg.alloc ?_ _))) hg1 (fun _ _ h => h)
           have HC3 : Hid (Chg (fun i => i = w.heap.size) w3 w4) := HG1.out.mono (fun _ _ h => h.elim)
           clear ho1 hg1)
        | (refine step_appendN (by rfl) (.tmp 77) (.tmp 81) 48 (by rfl) w3.heap.size 91 i9 _ 2 16 Try.underlying48 hi9 h90 h91 h92 rfl (by decide) v1 (by rfl) i (pfl (l0.take i)) (by exact HO1.out) (by exact HG1.out.size) ad9 (l0.length - (i + 1)) (c0 - (i + 1)) (pfl (l0.drop (i + 1))) (by rfl) HR2.out.2.1 (fun j u hu => (HG1.out.cell (by rw [block_of_add]; exact HR9.out.1)).trans (HR9.out.2 j u hu)) (pfl_one _) (by unfold maxLen; omega) (by omega) ?_
           intro v2 w5 ho2 hc2
           obtain ⟨A', c', hv2, _⟩ := own_reads ho2
           rw [hv2] at ho2
           have hlen : D.length = i + (l0.length - (i + 1)) := by rw [HD.out]; simp; omega
           have hp5 := pairs_own_ (l := D) (m := D.length) (by rw [HD.out, pfl_append]; exact ho2) hlen
           rw [← hlen] at hv2
           rw [hv2]
           clear hv2 hlen
           have hb5 : Below w3.heap.size w3 w5 := (Chg.toBelow HG1.out).trans (hc2.below HG1.out.size (fun i hi => (HO1.out.lt i hi).1))
           have HC3 : Hid (Chg (fun i => i = w.heap.size) w3 w5) := Chg.ofBelow hb5 _
           have HE3 : Hid (SpE w w5 (.slice (some ad) l0.length c0) (.slice A1 l1.length c1)) := HE.out.below (hb5.mono HE.out.size)
           have HO3 : Hid (PairsIn w5 (NotG Kx w.heap.size) A1 l1.length c1 l1) := (HT3.out.notG.below hb5).p1
           have HN3 : Hid (PairsIn w5 (NotG Kx w.heap.size) A' D.length c' D) := hp5.more (fun i _ hk => Or.inr (by have h9 : w3.heap.size ≤ i := hk; have := HE.out.size; omega))
           have g0 : w5.cell? ⟨w.heap.size, 0, none⟩ = some (.slice (some ad) l0.length c0) := by rw [HE3.out.m.cell]; rfl
           have f0 : w5.frozen? ⟨w.heap.size, 0, none⟩ = false := HE3.out.m.frozen 0
           clear ho2 hp5 hb5 hc2)
        | fail))
    have HE4 : Hid (SpE w (w5.setCell ⟨w.heap.size, 0, none⟩ (.slice A' D.length c')) ((.slice A' D.length c')) (.slice A1 l1.length c1)) := HE3.out.set0 _
    have HP40 : Hid (PairsIn (w5.setCell ⟨w.heap.size, 0, none⟩ (.slice A' D.length c')) (NotG Kx w.heap.size) _ _ _ _) := (HN3.out.setg _ _)
    have HP41 : Hid (PairsIn (w5.setCell ⟨w.heap.size, 0, none⟩ (.slice A' D.length c')) (NotG Kx w.heap.size) _ _ _ _) := (HO3.out.setg _ _)
    generalize (w5.setCell ⟨w.heap.size, 0, none⟩ (.slice A' D.length c')) = w4 at *
    have m0 : w4.cell? ⟨w.heap.size, 0, none⟩ = some ((.slice A' D.length c')) := by rw [HE4.out.m.cell]; rfl
    have m1 : w4.cell? ⟨w.heap.size, 1, none⟩ = some (.slice A1 l1.length c1) := by rw [HE4.out.m.cell]; rfl
    have ra0 : w4.cell? ⟨w.heap.size + 2, 0, none⟩ = some (.slice none 0 0) := by rw [HE4.out.r0.cell]; rfl
    have raf0 := HE4.out.r0.frozen 0
    have ra1 : w4.cell? ⟨w.heap.size + 2, 1, none⟩ = some (.slice none 0 0) := by rw [HE4.out.r0.cell]; rfl
    have raf1 := HE4.out.r0.frozen 1
    have rb0 : w4.cell? ⟨w.heap.size + 3, 0, none⟩ = some (.int .i64 0) := by rw [HE4.out.r1.cell]; rfl
    have rbf0 := HE4.out.r1.frozen 0
    have rb1 : w4.cell? ⟨w.heap.size + 3, 1, none⟩ = some (.bool false) := by rw [HE4.out.r1.cell]; rfl
    have rbf1 := HE4.out.r1.frozen 1
    have rb2 : w4.cell? ⟨w.heap.size + 3, 2, none⟩ = some (.slice none 0 0) := by rw [HE4.out.r1.cell]; rfl
    have rbf2 := HE4.out.r1.frozen 2
    have rb3 : w4.cell? ⟨w.heap.size + 3, 3, none⟩ = some (.bool false) := by rw [HE4.out.r1.cell]; rfl
    have rbf3 := HE4.out.r1.frozen 3
    have HSIX : Hid (Blk (((((((w4).setCell ⟨w.heap.size + 1 + 1, 0, none⟩ ((.slice A' D.length c'))).setCell ⟨w.heap.size + 1 + 1, 1, none⟩ (.slice A1 l1.length c1)).setCell ⟨w.heap.size + 1 + 1 + 1, 0, none⟩ (.int .i64 0)).setCell ⟨w.heap.size + 1 + 1 + 1, 1, none⟩ (.bool false)).setCell ⟨w.heap.size + 1 + 1 + 1, 2, none⟩ (.slice none 0 0)).setCell ⟨w.heap.size + 1 + 1 + 1, 3, none⟩ (.bool false)) (w.heap.size + 1 + 1) 49 #[(.slice A' D.length c'), .slice A1 l1.length c1] ∧ Blk (((((((w4).setCell ⟨w.heap.size + 1 + 1, 0, none⟩ ((.slice A' D.length c'))).setCell ⟨w.heap.size + 1 + 1, 1, none⟩ (.slice A1 l1.length c1)).setCell ⟨w.heap.size + 1 + 1 + 1, 0, none⟩ (.int .i64 0)).setCell ⟨w.heap.size + 1 + 1 + 1, 1, none⟩ (.bool false)).setCell ⟨w.heap.size + 1 + 1 + 1, 2, none⟩ (.slice none 0 0)).setCell ⟨w.heap.size + 1 + 1 + 1, 3, none⟩ (.bool false)) (w.heap.size + 1 + 1 + 1) 31 #[.int .i64 0, .bool false, .slice none 0 0, .bool false] ∧ Chg (fun i => i = w.heap.size + 1 + 1 ∨ i = w.heap.size + 1 + 1 + 1) (w4) (((((((w4).setCell ⟨w.heap.size + 1 + 1, 0, none⟩ ((.slice A' D.length c'))).setCell ⟨w.heap.size + 1 + 1, 1, none⟩ (.slice A1 l1.length c1)).setCell ⟨w.heap.size + 1 + 1 + 1, 0, none⟩ (.int .i64 0)).setCell ⟨w.heap.size + 1 + 1 + 1, 1, none⟩ (.bool false)).setCell ⟨w.heap.size + 1 + 1 + 1, 2, none⟩ (.slice none 0 0)).setCell ⟨w.heap.size + 1 + 1 + 1, 3, none⟩ (.bool false))) := sp_six (g := w.heap.size) (E := w4) HE4.out.r0 HE4.out.r1 ((.slice A' D.length c')) (.slice A1 l1.length c1) (.int .i64 0) (.bool false) (.slice none 0 0) (.bool false)
    go_wp2
    generalize (((((((w4).setCell ⟨w.heap.size + 1 + 1, 0, none⟩ ((.slice A' D.length c'))).setCell ⟨w.heap.size + 1 + 1, 1, none⟩ (.slice A1 l1.length c1)).setCell ⟨w.heap.size + 1 + 1 + 1, 0, none⟩ (.int .i64 0)).setCell ⟨w.heap.size + 1 + 1 + 1, 1, none⟩ (.bool false)).setCell ⟨w.heap.size + 1 + 1 + 1, 2, none⟩ (.slice none 0 0)).setCell ⟨w.heap.size + 1 + 1 + 1, 3, none⟩ (.bool false)) = w9 at *
    have z0 : w9.cell? ⟨w.heap.size + 1 + 1, 0, none⟩ = some ((.slice A' D.length c')) := by rw [HSIX.out.1.cell]; rfl
    have z1 : w9.cell? ⟨w.heap.size + 1 + 1, 1, none⟩ = some (.slice A1 l1.length c1) := by rw [HSIX.out.1.cell]; rfl
    have y0 : w9.cell? ⟨w.heap.size + 1 + 1 + 1, 0, none⟩ = some (.int .i64 0) := by rw [HSIX.out.2.1.cell]; rfl
    have y1 : w9.cell? ⟨w.heap.size + 1 + 1 + 1, 1, none⟩ = some (.bool false) := by rw [HSIX.out.2.1.cell]; rfl
    have y2 : w9.cell? ⟨w.heap.size + 1 + 1 + 1, 2, none⟩ = some (.slice none 0 0) := by rw [HSIX.out.2.1.cell]; rfl
    have y3 : w9.cell? ⟨w.heap.size + 1 + 1 + 1, 3, none⟩ = some (.bool false) := by rw [HSIX.out.2.1.cell]; rfl
    refine bodyPost_ret (v := .tuple #[.agg #[(.slice A' D.length c'), .slice A1 l1.length c1], .agg #[.int .i64 0, .bool false, .slice none 0 0, .bool false], .bool true]) ?_ rfl ?_
    · simp [results, Try.f20, go_sem, z0, z1, y0, y1, y2, y3]
    · exact sp_fin (E := w4) (x := (D, l1)) (ans := zeroAns) (okb := true) HR.out HE4.out.r0 HE4.out.r1 ⟨HP40.out.notR, HP41.out.notR⟩ rfl SliceIs.none_ HE4.out.bel HSIX.out.2.2

set_option linter.unusedVariables false in
set_option linter.unusedSimpArgs false in
set_option maxHeartbeats 2000000 in
set_option maxRecDepth 100000 in
theorem spm0_6 (Kx : Nat → Prop) (A0 A1 A : Option Addr) (c0 c1 c : Nat) (l0 l1 : List (Int × Int)) (s : StepD) (w : World) (hz0 : l0.length ≤ 274877906944) (hz1 : l1.length ≤ 274877906944) (h : TwoIn w Kx A0 A1 c0 c1 (l0, l1)) (hwh : s.which = 0) (hwhat : s.what = 6) :
    Calls Try.prog 20 #[.agg #[.slice A0 l0.length c0, .slice A1 l1.length c1], .agg (s.cells (.slice A s.list.length c))] w (SpecM Kx (specM (l0, l1) s) w) := by
  have hW := spW w (.slice A0 l0.length c0) (.slice A1 l1.length c1) (s.cells (.slice A s.list.length c))
  have hT : TwoIn _ (Lo Kx w.heap.size) A0 A1 c0 c1 (l0, l1) := h.lo.keep hW.bel.size (fun p hp _ => hW.bel.cell hp)
  clear h
  unfold StepD.cells at *
  rw [hwhat, hwh] at hW hT ⊢
  have HW := hide hW
  have HT := hide hT
  clear hW hT
  go_enter Try.func20, Try.ntmps20
  go_wp2_with fail
  generalize (((w.alloc (.cells #[.slice A0 l0.length c0, .slice A1 l1.length c1] 49)).alloc (.cells #[.int .i64 6, .int .i64 0, .int .i64 s.index, .int .i64 s.bit, .int .i64 s.n, .int .i64 s.key, .int .i64 s.value, .slice A s.list.length c] 34)).alloc (.cells #[.slice none 0 0, .slice none 0 0] 49)).alloc (.cells #[.int .i64 0, .bool false, .slice none 0 0, .bool false] 31) = W at *
  have m0 : W.cell? ⟨w.heap.size, 0, none⟩ = some (.slice A0 l0.length c0) := by rw [HW.out.m.cell]; rfl
  have m1 : W.cell? ⟨w.heap.size, 1, none⟩ = some (.slice A1 l1.length c1) := by rw [HW.out.m.cell]; rfl
  have s0 : W.cell? ⟨w.heap.size + 1, 0, none⟩ = some (.int .i64 6) := by rw [HW.out.s.cell]; rfl
  have s1 : W.cell? ⟨w.heap.size + 1, 1, none⟩ = some (.int .i64 0) := by rw [HW.out.s.cell]; rfl
  have s5 : W.cell? ⟨w.heap.size + 1, 5, none⟩ = some (.int .i64 s.key) := by rw [HW.out.s.cell]; rfl
  have s6 : W.cell? ⟨w.heap.size + 1, 6, none⟩ = some (.int .i64 s.value) := by rw [HW.out.s.cell]; rfl
  have ra0 : W.cell? ⟨w.heap.size + 2, 0, none⟩ = some (.slice none 0 0) := by rw [HW.out.r0.cell]; rfl
  have raf0 := HW.out.r0.frozen 0
  have ra1 : W.cell? ⟨w.heap.size + 2, 1, none⟩ = some (.slice none 0 0) := by rw [HW.out.r0.cell]; rfl
  have raf1 := HW.out.r0.frozen 1
  have rb0 : W.cell? ⟨w.heap.size + 3, 0, none⟩ = some (.int .i64 0) := by rw [HW.out.r1.cell]; rfl
  have rbf0 := HW.out.r1.frozen 0
  have rb1 : W.cell? ⟨w.heap.size + 3, 1, none⟩ = some (.bool false) := by rw [HW.out.r1.cell]; rfl
  have rbf1 := HW.out.r1.frozen 1
  have rb2 : W.cell? ⟨w.heap.size + 3, 2, none⟩ = some (.slice none 0 0) := by rw [HW.out.r1.cell]; rfl
  have rbf2 := HW.out.r1.frozen 2
  have rb3 : W.cell? ⟨w.heap.size + 3, 3, none⟩ = some (.bool false) := by rw [HW.out.r1.cell]; rfl
  have rbf3 := HW.out.r1.frozen 3
  go_quiet (fail)
  have HR : Hid (specM (l0, l1) s = (((l1.foldl (fun l q => putS l q.1 q.2) l0), l1), zeroAns, true)) := by show _ = _; simp [specM, spC, hwh, hwhat]
  go_wp2_with fail
  go_loopw [7, 110] (fun s7 i wr => ∃ (j : Nat) (B : Option Addr) (d : Nat) (xs : List (Int × Int)), j ≤ l1.length ∧ i = .int .i64 j ∧ s7 = .slice B xs.length d ∧ Hid (UpdI Kx w W wr l0 l1 j B d xs)) (fun _ i _ => l1.length - (intOf i).toNat)
  case atStart => exact ⟨0, A0, c0, l0, Nat.zero_le _, rfl, rfl, below_q (Below.refl _ _) _, HT.out.notG.p0.keep (Nat.le_refl _) (fun _ _ _ => rfl), rfl, Nat.le_refl _⟩
  case round =>
    obtain ⟨j, B, d, xs, hj, rfl, rfl, hK⟩ := hrel
    by_cases hlt : j < l1.length
    · obtain ⟨ad, q, hA, hq, hl, e1, e2⟩ := (HT.out.p1.below hK.out.bel).at_ hlt
      have hA : A1 = some ad := hA
      subst hA
      have HQ := hide hq
      have hbA : Below wr.heap.size wr (wr.alloc (.cells #[.int .i64 q.1, .int .i64 q.2] 91)) := (Below.refl _ _).alloc (Nat.le_refl _) _
      have hx0 : Blk (wr.alloc (.cells #[.int .i64 q.1, .int .i64 q.2] 91)) wr.heap.size 91 #[.int .i64 q.1, .int .i64 q.2] := Blk.new _ _ _
      have x0 : (wr.alloc (.cells #[.int .i64 q.1, .int .i64 q.2] 91)).cell? ⟨wr.heap.size, 0, none⟩ = some (.int .i64 q.1) := by rw [hx0.cell]; rfl
      have x1 : (wr.alloc (.cells #[.int .i64 q.1, .int .i64 q.2] 91)).cell? ⟨wr.heap.size, 1, none⟩ = some (.int .i64 q.2) := by rw [hx0.cell]; rfl
      have hp := put_pairs _ B xs.length d xs q.1 q.2 _ (hK.out.pairs.below hbA) (by have := hK.out.len; omega)
      have HP := hide hp
      have HBA := hide hbA
      clear hq hbA hx0 hp
      go_wp2_with fail
      refine HP.out.mono ?_
      rintro e w3 ⟨v', rfl, ho, hb3⟩
      obtain ⟨B', d', rfl, _⟩ := own_reads ho
      have hU : UpdI Kx w W w3 l0 l1 (j + 1) B' d' (putS xs q.1 q.2) := by
        have hb : Below wr.heap.size wr w3 := HBA.out.trans (hb3.mono HBA.out.size)
        refine ⟨hK.out.bel.trans (hb.mono hK.out.bel.size), (pairs_own ho).more (fun i _ hk => Or.inr ?_), ?_, ?_⟩
        · have h9 : (wr.alloc (.cells #[.int .i64 q.1, .int .i64 q.2] 91)).heap.size ≤ i := hk
          have := HBA.out.size
          have := hK.out.bel.size
          have := HW.out.size
          omega
        · rw [List.take_add_one, show l1[j]? = some q from HQ.out]
          rw [Option.toList_some, List.foldl_append, ← hK.out.eq]
          rfl
        · have := putS_len xs q.1 q.2
          have := hK.out.len
          omega
      have HU := hide hU
      clear ho hb3 hU
      go_wp2
      go_roundw
      case rel => exact ⟨j + 1, B', d', _, by omega, by go_num, rfl, HU.out⟩
      case measure => simp [intOf]; omega
    · have hjn : j = l1.length := by omega
      subst hjn
      have hxs := hK.out.eq
      rw [List.take_length] at hxs
      rw [← hxs] at HR
      have HE3 : Hid (SpE w wr (.slice A0 l0.length c0) (.slice A1 l1.length c1)) := HW.out.e.below (hK.out.bel.mono HW.out.e.size)
      have HO3 : Hid (PairsIn wr (NotG Kx w.heap.size) A1 l1.length c1 l1) := (HT.out.notG.below hK.out.bel).p1
      have HN3 : Hid (PairsIn wr (NotG Kx w.heap.size) B xs.length d xs) := hK.out.pairs
      have hsb := HW.out.s.below hK.out.bel HW.out.s.lt
      have s1 : wr.cell? ⟨w.heap.size + 1, 1, none⟩ = some (.int .i64 0) := by rw [hsb.cell]; rfl
      have g0 : wr.cell? ⟨w.heap.size, 0, none⟩ = some (.slice A0 l0.length c0) := by rw [HE3.out.m.cell]; rfl
      have f0 : wr.frozen? ⟨w.heap.size, 0, none⟩ = false := HE3.out.m.frozen 0
      have HE4 : Hid (SpE w (wr.setCell ⟨w.heap.size, 0, none⟩ (.slice B xs.length d)) (.slice B xs.length d) (.slice A1 l1.length c1)) := HE3.out.set0 _
      have m0 : wr.cell? ⟨w.heap.size, 0, none⟩ = some (.slice A0 l0.length c0) := by rw [HE3.out.m.cell]; rfl
      have m1 : wr.cell? ⟨w.heap.size, 1, none⟩ = some (.slice A1 l1.length c1) := by rw [HE3.out.m.cell]; rfl
      clear hsb hxs hK
      have ra0 : wr.cell? ⟨w.heap.size + 2, 0, none⟩ = some (.slice none 0 0) := by rw [HE3.out.r0.cell]; rfl
      have raf0 := HE3.out.r0.frozen 0
      have ra1 : wr.cell? ⟨w.heap.size + 2, 1, none⟩ = some (.slice none 0 0) := by rw [HE3.out.r0.cell]; rfl
      have raf1 := HE3.out.r0.frozen 1
      have rb0 : wr.cell? ⟨w.heap.size + 3, 0, none⟩ = some (.int .i64 0) := by rw [HE3.out.r1.cell]; rfl
      have rbf0 := HE3.out.r1.frozen 0
      have rb1 : wr.cell? ⟨w.heap.size + 3, 1, none⟩ = some (.bool false) := by rw [HE3.out.r1.cell]; rfl
      have rbf1 := HE3.out.r1.frozen 1
      have rb2 : wr.cell? ⟨w.heap.size + 3, 2, none⟩ = some (.slice none 0 0) := by rw [HE3.out.r1.cell]; rfl
      have rbf2 := HE3.out.r1.frozen 2
      have rb3 : wr.cell? ⟨w.heap.size + 3, 3, none⟩ = some (.bool false) := by rw [HE3.out.r1.cell]; rfl
      have rbf3 := HE3.out.r1.frozen 3
      have HSIX : Hid (Blk ((((((((wr.setCell ⟨w.heap.size, 0, none⟩ (.slice B xs.length d))).setCell ⟨w.heap.size + 1 + 1, 0, none⟩ (.slice B xs.length d)).setCell ⟨w.heap.size + 1 + 1, 1, none⟩ (.slice A1 l1.length c1)).setCell ⟨w.heap.size + 1 + 1 + 1, 0, none⟩ (.int .i64 0)).setCell ⟨w.heap.size + 1 + 1 + 1, 1, none⟩ (.bool false)).setCell ⟨w.heap.size + 1 + 1 + 1, 2, none⟩ (.slice none 0 0)).setCell ⟨w.heap.size + 1 + 1 + 1, 3, none⟩ (.bool false)) (w.heap.size + 1 + 1) 49 #[.slice B xs.length d, .slice A1 l1.length c1] ∧ Blk ((((((((wr.setCell ⟨w.heap.size, 0, none⟩ (.slice B xs.length d))).setCell ⟨w.heap.size + 1 + 1, 0, none⟩ (.slice B xs.length d)).setCell ⟨w.heap.size + 1 + 1, 1, none⟩ (.slice A1 l1.length c1)).setCell ⟨w.heap.size + 1 + 1 + 1, 0, none⟩ (.int .i64 0)).setCell ⟨w.heap.size + 1 + 1 + 1, 1, none⟩ (.bool false)).setCell ⟨w.heap.size + 1 + 1 + 1, 2, none⟩ (.slice none 0 0)).setCell ⟨w.heap.size + 1 + 1 + 1, 3, none⟩ (.bool false)) (w.heap.size + 1 + 1 + 1) 31 #[.int .i64 0, .bool false, .slice none 0 0, .bool false] ∧ Chg (fun i => i = w.heap.size + 1 + 1 ∨ i = w.heap.size + 1 + 1 + 1) ((wr.setCell ⟨w.heap.size, 0, none⟩ (.slice B xs.length d))) ((((((((wr.setCell ⟨w.heap.size, 0, none⟩ (.slice B xs.length d))).setCell ⟨w.heap.size + 1 + 1, 0, none⟩ (.slice B xs.length d)).setCell ⟨w.heap.size + 1 + 1, 1, none⟩ (.slice A1 l1.length c1)).setCell ⟨w.heap.size + 1 + 1 + 1, 0, none⟩ (.int .i64 0)).setCell ⟨w.heap.size + 1 + 1 + 1, 1, none⟩ (.bool false)).setCell ⟨w.heap.size + 1 + 1 + 1, 2, none⟩ (.slice none 0 0)).setCell ⟨w.heap.size + 1 + 1 + 1, 3, none⟩ (.bool false))) := sp_six (g := w.heap.size) (E := (wr.setCell ⟨w.heap.size, 0, none⟩ (.slice B xs.length d))) HE4.out.r0 HE4.out.r1 (.slice B xs.length d) (.slice A1 l1.length c1) (.int .i64 0) (.bool false) (.slice none 0 0) (.bool false)
      go_wp2
      generalize ((((((((wr.setCell ⟨w.heap.size, 0, none⟩ (.slice B xs.length d))).setCell ⟨w.heap.size + 1 + 1, 0, none⟩ (.slice B xs.length d)).setCell ⟨w.heap.size + 1 + 1, 1, none⟩ (.slice A1 l1.length c1)).setCell ⟨w.heap.size + 1 + 1 + 1, 0, none⟩ (.int .i64 0)).setCell ⟨w.heap.size + 1 + 1 + 1, 1, none⟩ (.bool false)).setCell ⟨w.heap.size + 1 + 1 + 1, 2, none⟩ (.slice none 0 0)).setCell ⟨w.heap.size + 1 + 1 + 1, 3, none⟩ (.bool false)) = w9 at *
      have z0 : w9.cell? ⟨w.heap.size + 1 + 1, 0, none⟩ = some (.slice B xs.length d) := by rw [HSIX.out.1.cell]; rfl
      have z1 : w9.cell? ⟨w.heap.size + 1 + 1, 1, none⟩ = some (.slice A1 l1.length c1) := by rw [HSIX.out.1.cell]; rfl
      have y0 : w9.cell? ⟨w.heap.size + 1 + 1 + 1, 0, none⟩ = some (.int .i64 0) := by rw [HSIX.out.2.1.cell]; rfl
      have y1 : w9.cell? ⟨w.heap.size + 1 + 1 + 1, 1, none⟩ = some (.bool false) := by rw [HSIX.out.2.1.cell]; rfl
      have y2 : w9.cell? ⟨w.heap.size + 1 + 1 + 1, 2, none⟩ = some (.slice none 0 0) := by rw [HSIX.out.2.1.cell]; rfl
      have y3 : w9.cell? ⟨w.heap.size + 1 + 1 + 1, 3, none⟩ = some (.bool false) := by rw [HSIX.out.2.1.cell]; rfl
      refine bodyPost_ret (v := .tuple #[.agg #[.slice B xs.length d, .slice A1 l1.length c1], .agg #[.int .i64 0, .bool false, .slice none 0 0, .bool false], .bool true]) ?_ rfl ?_
      · simp [results, Try.f20, go_sem, z0, z1, y0, y1, y2, y3]
      · exact sp_fin (E := (wr.setCell ⟨w.heap.size, 0, none⟩ (.slice B xs.length d))) (x := (xs, l1)) (ans := zeroAns) (okb := true) HR.out HE4.out.r0 HE4.out.r1 ⟨(HN3.out.setg _ _).notR, (HO3.out.setg _ _).notR⟩ rfl SliceIs.none_ HE4.out.bel HSIX.out.2.2

set_option linter.unusedVariables false in
set_option linter.unusedSimpArgs false in
set_option maxHeartbeats 2000000 in
set_option maxRecDepth 100000 in
theorem spm_out (Kx : Nat → Prop) (A0 A1 A : Option Addr) (c0 c1 c : Nat) (l0 l1 : List (Int × Int)) (s : StepD) (w : World) (h : TwoIn w Kx A0 A1 c0 c1 (l0, l1)) (hwh : s.which < 0 ∨ 1 < s.which) :
    Calls Try.prog 20 #[.agg #[.slice A0 l0.length c0, .slice A1 l1.length c1], .agg (s.cells (.slice A s.list.length c))] w (SpecM Kx (specM (l0, l1) s) w) := by
  have hZ := spZ w (.slice A0 l0.length c0) (.slice A1 l1.length c1) (.slice A0 l0.length c0) (.slice A1 l1.length c1) (.int .i64 0) (.bool false) (.slice none 0 0) (.bool false) (s.cells (.slice A s.list.length c))
  have hT : TwoIn _ (Lo Kx w.heap.size) A0 A1 c0 c1 (l0, l1) := h.lo.keep hZ.1.size (fun p hp _ => hZ.1.cell hp)
  have hw0 : ¬ s.which = 0 := by omega
  have hw1 : ¬ s.which = 1 := by omega
  clear h
  unfold StepD.cells at *
  have HZ := hide hZ
  have HT := hide hT
  have HR : Hid (specM (l0, l1) s = ((l0, l1), zeroAns, true)) := by show _ = _; simp [specM, hw0, hw1]
  clear hZ hT hw0 hw1
  go_enter Try.func20, Try.ntmps20
  rcases hwh with hwh | hwh
  · go_wp2
    generalize (((w.alloc (.cells #[.slice A0 l0.length c0, .slice A1 l1.length c1] 49)).alloc (.cells #[.int .i64 s.what, .int .i64 s.which, .int .i64 s.index, .int .i64 s.bit, .int .i64 s.n, .int .i64 s.key, .int .i64 s.value, .slice A s.list.length c] 34)).alloc (.cells #[.slice A0 l0.length c0, .slice A1 l1.length c1] 49)).alloc (.cells #[.int .i64 0, .bool false, .slice none 0 0, .bool false] 31) = Z at *
    have z0 : Z.cell? ⟨w.heap.size + 1 + 1, 0, none⟩ = some (.slice A0 l0.length c0) := by rw [HZ.out.2.1.cell]; rfl
    have z1 : Z.cell? ⟨w.heap.size + 1 + 1, 1, none⟩ = some (.slice A1 l1.length c1) := by rw [HZ.out.2.1.cell]; rfl
    have y0 : Z.cell? ⟨w.heap.size + 1 + 1 + 1, 0, none⟩ = some (.int .i64 0) := by rw [HZ.out.2.2.cell]; rfl
    have y1 : Z.cell? ⟨w.heap.size + 1 + 1 + 1, 1, none⟩ = some (.bool false) := by rw [HZ.out.2.2.cell]; rfl
    have y2 : Z.cell? ⟨w.heap.size + 1 + 1 + 1, 2, none⟩ = some (.slice none 0 0) := by rw [HZ.out.2.2.cell]; rfl
    have y3 : Z.cell? ⟨w.heap.size + 1 + 1 + 1, 3, none⟩ = some (.bool false) := by rw [HZ.out.2.2.cell]; rfl
    refine bodyPost_ret (v := .tuple #[.agg #[.slice A0 l0.length c0, .slice A1 l1.length c1], .agg #[.int .i64 0, .bool false, .slice none 0 0, .bool false], .bool true]) ?_ rfl ?_
    · simp [results, Try.f20, go_sem, z0, z1, y0, y1, y2, y3]
    · exact sp_fin (E := Z) (x := (l0, l1)) (ans := zeroAns) (okb := true) HR.out HZ.out.2.1 HZ.out.2.2 HT.out.notR rfl SliceIs.none_ HZ.out.1 (Chg.refl _ _)
  · have hwn : ¬ s.which < 0 := by omega
    go_wp2
    generalize (((w.alloc (.cells #[.slice A0 l0.length c0, .slice A1 l1.length c1] 49)).alloc (.cells #[.int .i64 s.what, .int .i64 s.which, .int .i64 s.index, .int .i64 s.bit, .int .i64 s.n, .int .i64 s.key, .int .i64 s.value, .slice A s.list.length c] 34)).alloc (.cells #[.slice A0 l0.length c0, .slice A1 l1.length c1] 49)).alloc (.cells #[.int .i64 0, .bool false, .slice none 0 0, .bool false] 31) = Z at *
    have z0 : Z.cell? ⟨w.heap.size + 1 + 1, 0, none⟩ = some (.slice A0 l0.length c0) := by rw [HZ.out.2.1.cell]; rfl
    have z1 : Z.cell? ⟨w.heap.size + 1 + 1, 1, none⟩ = some (.slice A1 l1.length c1) := by rw [HZ.out.2.1.cell]; rfl
    have y0 : Z.cell? ⟨w.heap.size + 1 + 1 + 1, 0, none⟩ = some (.int .i64 0) := by rw [HZ.out.2.2.cell]; rfl
    have y1 : Z.cell? ⟨w.heap.size + 1 + 1 + 1, 1, none⟩ = some (.bool false) := by rw [HZ.out.2.2.cell]; rfl
    have y2 : Z.cell? ⟨w.heap.size + 1 + 1 + 1, 2, none⟩ = some (.slice none 0 0) := by rw [HZ.out.2.2.cell]; rfl
    have y3 : Z.cell? ⟨w.heap.size + 1 + 1 + 1, 3, none⟩ = some (.bool false) := by rw [HZ.out.2.2.cell]; rfl
    refine bodyPost_ret (v := .tuple #[.agg #[.slice A0 l0.length c0, .slice A1 l1.length c1], .agg #[.int .i64 0, .bool false, .slice none 0 0, .bool false], .bool true]) ?_ rfl ?_
    · simp [results, Try.f20, go_sem, z0, z1, y0, y1, y2, y3]
    · exact sp_fin (E := Z) (x := (l0, l1)) (ans := zeroAns) (okb := true) HR.out HZ.out.2.1 HZ.out.2.2 HT.out.notR rfl SliceIs.none_ HZ.out.1 (Chg.refl _ _)

end Go.Proofs.Ytammpllfmbmdmaa
