/- The walk of spec.Groups: Pop. Printed by gen_sg.py 3. -/
import Derived.Test.YtammpllfmbmdmaaSg2
namespace Go.Proofs.Ytammpllfmbmdmaa
open Go.RowKit
attribute [local go_sem ↓] Go.wp_at_zero Go.wp_at_succ

set_option maxHeartbeats 1000000 in
set_option maxRecDepth 100000 in
theorem sgroups_1 (w0 : World) (A : Option Addr) (k c : Nat) (us : List Value) (L0 : List (List Int)) (l1 : List Int) (x : Int) (s : StepD) (LA : Option Addr) (lc : Nat) (w : World) (h : RowsIs w0 w A (k + 1) c us (L0 ++ [l1 ++ [x]])) (hn : k ≤ 549755813888) (hw0 : w0.heap.size ≤ w.heap.size) (hw : s.what = 1) :
    Calls Try.prog 12 #[.slice A (k + 1) c, .agg (s.cells (.slice LA s.list.length lc))] w (SgOut w0 (specGr (L0 ++ [l1 ++ [x]]) s) w) := by
  obtain ⟨ad, us0, u, L0', l, Ai, ci, rfl, rfl, hLL, h0, hL0, hadl, hcu, rfl, hsl⟩ := h.last
  obtain ⟨rfl, hl⟩ : L0 = L0' ∧ l1 ++ [x] = l := by
    have h1 := List.append_inj' hLL rfl
    exact ⟨h1.1, by simpa using h1.2⟩
  subst hl
  have hcap := h.cap
  have hst := start34 w (s.cells (.slice LA s.list.length lc)) #[.int .i64 0, .bool false, .slice none 0 0, .bool false]
  have hcW : ((w.alloc (.cells (s.cells (.slice LA s.list.length lc)) 34)).alloc (.cells #[.int .i64 0, .bool false, .slice none 0 0, .bool false] 31)).cell? (ad.add k) = some (.slice Ai (l1 ++ [x]).length ci) := (Gr.cell (Gr.ofBelow hst.1) (by rw [block_of_add]; exact hadl)).trans hcu
  have hlen : (l1 ++ [x]).length = l1.length + 1 := by simp
  have hsl1 : SliceIs w (OldRow w0 w) Ai l1.length ci l1 := by
    have h1 := hsl.reads.take (j := l1.length) (by simp)
    rw [List.take_left' rfl] at h1
    exact ⟨rfl, by have := hsl.cap; simp at this; omega, hsl.max, h1, hsl.nil_⟩
  have hone : Hid (∀ u ∈ us0, u.oneCell' = true) := fun u hu => by
    obtain ⟨i, hi⟩ := List.getElem?_of_mem hu
    have hi2 := (List.getElem?_eq_some_iff.1 hi).1
    obtain ⟨lx, hl⟩ : ∃ lx, L0[i]? = some lx := ⟨_, List.getElem?_eq_getElem (by omega)⟩
    obtain ⟨Ai, ci, e, _⟩ := h.take.each i u lx hi hl
    rw [e]; rfl
  obtain ⟨ai, hAi, _⟩ := hsl.reads.2 (by simp)
  subst hAi
  have hcc := hsl.cap
  have hcm := hsl.max
  unfold maxLen at hcm
  rw [hlen] at hcW hcc
  have H := hide h
  have HSL1 := hide hsl1
  have HST := hide hst
  have hq : specGr (L0 ++ [l1 ++ [x]]) s = (L0 ++ [l1], zeroAns, true) := by simp [specGr, hw]
  rw [hq]
  have hic : k ≤ c := by omega
  clear h hsl hsl1 hst hq hcu hlen hLL
  obtain ⟨i7, hi7, h70, h71, h72⟩ := info_parts info27
  unfold StepD.cells at *
  rw [hw] at HST hcW ⊢
  obtain ⟨m, hm⟩ : ∃ m, m = l1.length := ⟨_, rfl⟩
  rw [← hm] at hcW hcc HSL1
  have HM : Hid (l1.length = m) := hm.symm
  clear hm
  have hmc : m ≤ ci := by omega
  have hw1 : IntKind.i64.wrap ((m : Int) + 1 - 1) = m := by rw [IntKind.wrap_i64]; omega
  have hw2 : IntKind.i64.wrap (m : Int) = m := by rw [IntKind.wrap_i64]; omega
  have b1 : (0 : Int) ≤ (k : Int) := by omega
  have b2 : (k : Int) < (k : Int) + 1 := by omega
  have b3 : (0 : Int) ≤ (m : Int) := by omega
  have b4 : (m : Int) ≤ (ci : Int) := by omega
  have b5 : (k : Int) ≤ (c : Int) := by omega
  go_enter Try.func12, Try.ntmps12
  go_wp2
  generalize (w.alloc (.cells #[.int .i64 1, .int .i64 s.which, .int .i64 s.index, .int .i64 s.bit, .int .i64 s.n, .int .i64 s.key, .int .i64 s.value, .slice LA s.list.length lc] 34)).alloc (.cells #[.int .i64 0, .bool false, .slice none 0 0, .bool false] 31) = W at *
  have HRD : Hid (∀ X, Gr W X → Reads X (Row27 W) 1 (some ad) k us0) := fun X hX => ((H.out.take.gr (Gr.ofBelow HST.out.1)).reads.chg hX (fun _ _ _ h => h))
  have HSZ : Hid (W.heap.size = w.heap.size + 2) := HST.out.2.2
  have HSK : Hid (∀ X, Chg (fun i => i = w.heap.size + 1) W X → X.cell? (ad.add k) = some (.slice (some ai) (m + 1) ci)) := fun X hX => (hX.cell (p := ad.add k) (by have := HSZ.out; rw [block_of_add]; omega) (fun e => by rw [block_of_add] at e; omega)).trans hcW
  go_region_held3 (fun w' => w'.cell? (ad.add k) = some (.slice (some ai) (m + 1) ci))
    (exact HSK.out _ (by (repeat (first | (with_reducible exact Chg.refl _ _) | (with_reducible refine Chg.mono HG4.out ?_; exact fun _ _ h => h.elim) | (with_reducible refine Chg.mono HG10.out ?_; exact fun _ _ h => h.elim) | (with_reducible refine Chg.mono HG14.out ?_; exact fun _ _ h => h.elim) | (with_reducible refine Chg.mono HG9.out ?_; exact fun _ _ h => h.elim) | (with_reducible refine Chg.alloc ?_ _) | (with_reducible refine Chg.drew ?_) | ((with_reducible refine Chg.setCell (S := fun i => i = w.heap.size + 1) ?_ ?_ _); rotate_left; exact fun _ => rfl)))))
    ((first
      | (refine step_append0 (by rfl) (.tmp 72) (.tmp 75) 25 (by rfl) W.heap.size 27 i7 (.slice none 0 0) 1 24 Try.underlying25 hi7 h70 h71 h72 rfl (by decide) _ (by rfl) (by (repeat (first | ((with_reducible refine Blk.new_ _ _ _ ?_); simp; done) | (with_reducible refine Blk.alloc ?_ _) | (with_reducible refine Blk.drew_ ?_) | (with_reducible refine HT4.out _ _ _ ?_) | (with_reducible refine HT10.out _ _ _ ?_) | (with_reducible refine HT14.out _ _ _ ?_)))) (by (first | omega | (simp; done) | (simp; omega))) (some ad) k c us0 (Row27 W) (by rfl) (HRD.out _ (by (repeat (first | (with_reducible exact Chg.refl _ _) | (with_reducible exact HG4.out) | (with_reducible exact HG10.out) | (with_reducible exact HG14.out) | (with_reducible exact HG9.out) | (with_reducible refine Chg.alloc ?_ _) | (with_reducible refine Chg.drew ?_))))) hone.out (fun h => by cases h) (by unfold maxLen; omega) (by omega) ?_
         intro v1 w1 hO1 hG1
         have HO4 := hide hO1
         have HG4 : Hid (Gr W w1) := Chg.trans (by (repeat (first | (with_reducible exact Chg.refl _ _) | (with_reducible exact HG4.out) | (with_reducible exact HG10.out) | (with_reducible exact HG14.out) | (with_reducible exact HG9.out) | (with_reducible refine Chg.alloc ?_ _) | (with_reducible refine Chg.drew ?_)))) hG1 (fun _ _ h => h)
         have HT4 := hide hG1.blk
         have hs1 : W.heap.size ≤ w1.heap.size := HG4.out.size
         clear hO1 hG1)
      | (refine step_appendN (by rfl) (.tmp 76) (.tmp 88) 25 (by rfl) W.heap.size 27 i7 (.slice none 0 0) 1 24 Try.underlying25 hi7 h70 h71 h72 rfl (by decide) v1 (by rfl) k us0 (by (repeat (first | (with_reducible exact HO4.out) | (with_reducible exact HO10.out) | (with_reducible exact HO14.out) | (with_reducible refine World.ownsRow.alloc ?_ _) | (with_reducible refine own_drew ?_) | (with_reducible refine HW10.out _ _ _ _ _ _ ?_) | (with_reducible refine HW14.out _ _ _ _ ?_)))) (Chg.size (S := fun _ => False) (by (repeat (first | (with_reducible exact Chg.refl _ _) | (with_reducible exact HG4.out) | (with_reducible exact HG10.out) | (with_reducible exact HG14.out) | (with_reducible exact HG9.out) | (with_reducible refine Chg.alloc ?_ _) | (with_reducible refine Chg.drew ?_))))) _ 1 1 [.slice (some ai) m ci] (by rfl) rfl (news_blk (t := 27) (cs := #[.slice (some ai) m ci]) (by (repeat (first | ((with_reducible refine Blk.new_ _ _ _ ?_); simp; done) | (with_reducible refine Blk.alloc ?_ _) | (with_reducible refine Blk.drew_ ?_) | (with_reducible refine HT4.out _ _ _ ?_) | (with_reducible refine HT10.out _ _ _ ?_) | (with_reducible refine HT14.out _ _ _ ?_))))) (by simp [Value.oneCell']) (by unfold maxLen; omega) (by omega) ?_
         intro v2 w2 hO2 hC2
         have HG9 : Hid (Gr W w2) := Gr.then (by (repeat (first | (with_reducible exact Chg.refl _ _) | (with_reducible exact HG4.out) | (with_reducible exact HG10.out) | (with_reducible exact HG14.out) | (with_reducible exact HG9.out) | (with_reducible refine Chg.alloc ?_ _) | (with_reducible refine Chg.drew ?_)))) hC2 (fun i hi => ((HO4.out).lt i hi).1)
         have hz := HST.out.2.1.chg HG9.out (fun h => h)
         have k0 : w2.cell? ⟨w.heap.size + 1, 0, none⟩ = some (.int .i64 0) := by rw [hz.cell]; rfl
         have k1 : w2.cell? ⟨w.heap.size + 1, 1, none⟩ = some (.bool false) := by rw [hz.cell]; rfl
         have k2 : w2.cell? ⟨w.heap.size + 1, 2, none⟩ = some (.slice none 0 0) := by rw [hz.cell]; rfl
         have k3 : w2.cell? ⟨w.heap.size + 1, 3, none⟩ = some (.bool false) := by rw [hz.cell]; rfl
         have f0 := hz.frozen 0
         have f1 := hz.frozen 1
         have f2 := hz.frozen 2
         have f3 := hz.frozen 3
         have HZ := hide hz
         clear hz
         have HO9 := hide hO2
         clear hO2 hC2)
      | fail))
  all_goals
    have hfin : w2.ownsRow W.heap.size 27 1 v2 (k + 1) (us0 ++ [.slice (some ai) m ci]) := HO9.out
    obtain ⟨RA, rc, rfl, _⟩ := own_reads hfin
    have HF := hide hfin
    clear hfin HO9 HO4
    go_wp2
    have hbF : Blk ((((w2.setCell ⟨w.heap.size + 1, 0, none⟩ (.int .i64 0)).setCell ⟨w.heap.size + 1, 1, none⟩ (.bool false)).setCell ⟨w.heap.size + 1, 2, none⟩ (.slice none 0 0)).setCell ⟨w.heap.size + 1, 3, none⟩ (.bool false)) (w.heap.size + 1) 31 #[.int .i64 0, .bool false, .slice none 0 0, .bool false] := (((HZ.out.set_ 0 _).set_ 1 _).set_ 2 _).set_ 3 _
    have hcF : Chg (· = w.heap.size + 1) w2 ((((w2.setCell ⟨w.heap.size + 1, 0, none⟩ (.int .i64 0)).setCell ⟨w.heap.size + 1, 1, none⟩ (.bool false)).setCell ⟨w.heap.size + 1, 2, none⟩ (.slice none 0 0)).setCell ⟨w.heap.size + 1, 3, none⟩ (.bool false)) := (set4_chg w2 (w.heap.size + 1) _ _ _ _)
    generalize ((((w2.setCell ⟨w.heap.size + 1, 0, none⟩ (.int .i64 0)).setCell ⟨w.heap.size + 1, 1, none⟩ (.bool false)).setCell ⟨w.heap.size + 1, 2, none⟩ (.slice none 0 0)).setCell ⟨w.heap.size + 1, 3, none⟩ (.bool false)) = wF at *
    have j0 : wF.cell? ⟨w.heap.size + 1, 0, none⟩ = some (.int .i64 0) := by rw [hbF.cell]; rfl
    have j1 : wF.cell? ⟨w.heap.size + 1, 1, none⟩ = some (.bool false) := by rw [hbF.cell]; rfl
    have j2 : wF.cell? ⟨w.heap.size + 1, 2, none⟩ = some (.slice none 0 0) := by rw [hbF.cell]; rfl
    have j3 : wF.cell? ⟨w.heap.size + 1, 3, none⟩ = some (.bool false) := by rw [hbF.cell]; rfl
    refine bodyPost_ret (v := .tuple #[.slice RA (k + 1) rc, .agg #[.int .i64 0, .bool false, .slice none 0 0, .bool false], .bool true]) ?_ rfl ?_
    · simp [results, Try.f12, go_sem, j0, j1, j2, j3]
    · have h27 : ∀ i cs, Blk w2 i 27 cs → ¬ i = w.heap.size + 1 := fun i cs hb e => hb.ne_ HZ.out (by decide) e
      have h3 : ∀ i cs, Blk w2 i 3 cs → ¬ i = w.heap.size + 1 := fun i cs hb e => hb.ne_ HZ.out (by decide) e
      have h0' : ∀ i, i < w0.heap.size → ¬ i = w.heap.size + 1 := fun i hi e => by omega
      have hg9 : Gr w w2 := (Gr.ofBelow HST.out.1).trans HG9.out (fun _ _ h => h)
      refine ⟨RA, rc, us0 ++ [.slice (some ai) m ci], none, 0, by simp [AnsD.cells, zeroAns, hL0], ?_, SliceIs.none_, hg9.toBelow.trans (hcF.below (Nat.le_trans HST.out.1.size HG9.out.size) (fun i hi => by omega))⟩
      have hsl2 : SliceIs w2 (OldRow w0 w2) (some ai) m ci l1 := ((HSL1.out.chg hg9 (fun _ _ _ h => h)).more (fun i _ hk => OldRow.chg hg9 (fun _ _ _ h => h) i hk))
      have hfin2 := HF.out
      rw [← HM.out] at hfin2 hsl2
      have h8 := (H.out.take.gr hg9).snoc hfin2 hsl2
      have h9 := h8.chg hcF h27 h3 h0'
      show RowsIs _ _ _ (L0 ++ [l1]).length _ _ _
      rw [show (L0 ++ [l1]).length = k + 1 by simp [hL0]]
      rw [HM.out] at h9
      exact h9
end Go.Proofs.Ytammpllfmbmdmaa
