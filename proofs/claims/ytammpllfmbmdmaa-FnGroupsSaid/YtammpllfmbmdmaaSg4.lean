/- The walk of spec.Groups: Push. Printed by gen_sg.py 4. -/
import Derived.Test.YtammpllfmbmdmaaSg2
namespace Go.Proofs.Ytammpllfmbmdmaa
open Go.RowKit
attribute [local go_sem ↓] Go.wp_at_zero Go.wp_at_succ

set_option maxHeartbeats 4000000 in
set_option maxRecDepth 100000 in
theorem sgroups_0 (w0 : World) (A : Option Addr) (k c : Nat) (us : List Value) (L0 : List (List Int)) (l : List Int) (s : StepD) (LA : Option Addr) (lc : Nat) (w : World) (h : RowsIs w0 w A (k + 1) c us (L0 ++ [l])) (hn : k ≤ 549755813888) (hln : l.length ≤ 549755813888) (hw0 : w0.heap.size ≤ w.heap.size) (hw : s.what = 0) :
    Calls Try.prog 12 #[.slice A (k + 1) c, .agg (s.cells (.slice LA s.list.length lc))] w (SgOut w0 (specGr (L0 ++ [l]) s) w) := by
  obtain ⟨ad, us0, u, L0', l', Ai, ci, rfl, rfl, hLL, h0, hL0, hadl, hcu, rfl, hsl⟩ := h.last
  obtain ⟨rfl, rfl⟩ : L0 = L0' ∧ l = l' := by
    have h1 := List.append_inj' hLL rfl
    exact ⟨h1.1, by simpa using h1.2⟩
  have hcap := h.cap
  have hst := start34 w (s.cells (.slice LA s.list.length lc)) #[.int .i64 0, .bool false, .slice none 0 0, .bool false]
  have hcW : ((w.alloc (.cells (s.cells (.slice LA s.list.length lc)) 34)).alloc (.cells #[.int .i64 0, .bool false, .slice none 0 0, .bool false] 31)).cell? (ad.add k) = some (.slice Ai l.length ci) := (Gr.cell (Gr.ofBelow hst.1) (by rw [block_of_add]; exact hadl)).trans hcu
  have hcN : ((w.alloc (.cells (s.cells (.slice LA s.list.length lc)) 34)).alloc (.cells #[.int .i64 0, .bool false, .slice none 0 0, .bool false] 31)).cell? ⟨w.heap.size, 4, none⟩ = some (.int .i64 s.n) := by
    have hb : Blk ((w.alloc (.cells (s.cells (.slice LA s.list.length lc)) 34)).alloc (.cells #[.int .i64 0, .bool false, .slice none 0 0, .bool false] 31)) w.heap.size 34 (s.cells (.slice LA s.list.length lc)) := (Blk.new _ _ _).alloc _
    rw [hb.cell]; rfl
  have hone : Hid (∀ u ∈ us0, u.oneCell' = true) := fun u hu => by
    obtain ⟨i, hi⟩ := List.getElem?_of_mem hu
    have hi2 := (List.getElem?_eq_some_iff.1 hi).1
    obtain ⟨lx, hl⟩ : ∃ lx, L0[i]? = some lx := ⟨_, List.getElem?_eq_getElem (by omega)⟩
    obtain ⟨Ai, ci, e, _⟩ := h.take.each i u lx hi hl
    rw [e]; rfl
  have HONE : Hid (∀ u ∈ ints l, u.oneCell' = true) := fun u hu => by
    obtain ⟨x, _, rfl⟩ := List.mem_map.1 hu
    rfl
  have hsn := hsl.nil_
  have HSN := hide hsn
  have H := hide h
  have HSL := hide hsl
  have HST := hide hst
  have hq : specGr (L0 ++ [l]) s = (L0 ++ [l ++ [s.n]], zeroAns, true) := by simp [specGr, hw]
  rw [hq]
  have hic : k ≤ c := by omega
  clear h hsl hst hq hcu hLL hsn
  obtain ⟨i7, hi7, h70, h71, h72⟩ := info_parts info27
  obtain ⟨i3, hi3, h30, h31, h32⟩ := info_parts info3
  unfold StepD.cells at *
  rw [hw] at HST hcW hcN ⊢
  obtain ⟨m, hm⟩ : ∃ m, m = l.length := ⟨_, rfl⟩
  rw [← hm] at hcW HSL hln
  have HM : Hid (l.length = m) := hm.symm
  clear hm
  have b1 : (0 : Int) ≤ (k : Int) := by omega
  have b2 : (k : Int) < (k : Int) + 1 := by omega
  have b5 : (k : Int) ≤ (c : Int) := by omega
  go_enter Try.func12, Try.ntmps12
  go_wp2
  generalize (w.alloc (.cells #[.int .i64 0, .int .i64 s.which, .int .i64 s.index, .int .i64 s.bit, .int .i64 s.n, .int .i64 s.key, .int .i64 s.value, .slice LA s.list.length lc] 34)).alloc (.cells #[.int .i64 0, .bool false, .slice none 0 0, .bool false] 31) = W at *
  have HRD : Hid (∀ X, Gr W X → Reads X (Row27 W) 1 (some ad) k us0) := fun X hX => ((H.out.take.gr (Gr.ofBelow HST.out.1)).reads.chg hX (fun _ _ _ h => h))
  have HRL : Hid (∀ X, Gr W X → Reads X (OldRow w0 w) 1 Ai m (ints l)) := fun X hX => ((HSL.out.below HST.out.1).reads.chg hX (fun _ _ _ h => h))
  have HSZ : Hid (W.heap.size = w.heap.size + 2) := HST.out.2.2
  have HSK : Hid (∀ X, Chg (fun i => i = w.heap.size + 1) W X → X.cell? (ad.add k) = some (.slice Ai m ci) ∧ X.cell? ⟨w.heap.size, 4, none⟩ = some (.int .i64 s.n)) := fun X hX => ⟨(hX.cell (p := ad.add k) (by have := HSZ.out; rw [block_of_add]; omega) (fun e => by rw [block_of_add] at e; omega)).trans hcW, (hX.cell (p := ⟨w.heap.size, 4, none⟩) (by have := HSZ.out; show w.heap.size < _; omega) (fun e => by have e2 : w.heap.size = w.heap.size + 1 := e; omega)).trans hcN⟩
  go_region_held3 (fun w' => w'.cell? (ad.add k) = some (.slice Ai m ci) ∧ w'.cell? ⟨w.heap.size, 4, none⟩ = some (.int .i64 s.n))
    (exact HSK.out _ (by (repeat (first | (with_reducible exact Chg.refl _ _) | (with_reducible refine Chg.mono HG4.out ?_; exact fun _ _ h => h.elim) | (with_reducible refine Chg.mono HG10.out ?_; exact fun _ _ h => h.elim) | (with_reducible refine Chg.mono HG14.out ?_; exact fun _ _ h => h.elim) | (with_reducible refine Chg.mono HG9.out ?_; exact fun _ _ h => h.elim) | (with_reducible refine Chg.alloc ?_ _) | (with_reducible refine Chg.drew ?_) | ((with_reducible refine Chg.setCell (S := fun i => i = w.heap.size + 1) ?_ ?_ _); rotate_left; exact fun _ => rfl)))))
    ((first
      | (refine step_append0 (by rfl) (.tmp 52) (.tmp 55) 25 (by rfl) W.heap.size 27 i7 (.slice none 0 0) 1 24 Try.underlying25 hi7 h70 h71 h72 rfl (by decide) _ (by rfl) (by (repeat (first | ((with_reducible refine Blk.new_ _ _ _ ?_); simp; done) | (with_reducible refine Blk.alloc ?_ _) | (with_reducible refine Blk.drew_ ?_) | (with_reducible refine HT4.out _ _ _ ?_) | (with_reducible refine HT10.out _ _ _ ?_) | (with_reducible refine HT14.out _ _ _ ?_)))) (by (first | omega | (simp; done) | (simp; omega))) (some ad) k c us0 (Row27 W) (by rfl) (HRD.out _ (by (repeat (first | (with_reducible exact Chg.refl _ _) | (with_reducible exact HG4.out) | (with_reducible exact HG10.out) | (with_reducible exact HG14.out) | (with_reducible exact HG9.out) | (with_reducible refine Chg.alloc ?_ _) | (with_reducible refine Chg.drew ?_))))) hone.out (fun h => by cases h) (by unfold maxLen; omega) (by omega) ?_
         intro v1 w1 hO1 hG1
         have HO4 := hide hO1
         have HG4 : Hid (Gr W w1) := Chg.trans (by (repeat (first | (with_reducible exact Chg.refl _ _) | (with_reducible exact HG4.out) | (with_reducible exact HG10.out) | (with_reducible exact HG14.out) | (with_reducible exact HG9.out) | (with_reducible refine Chg.alloc ?_ _) | (with_reducible refine Chg.drew ?_)))) hG1 (fun _ _ h => h)
         have HT4 := hide hG1.blk
         have hs1 : W.heap.size ≤ w1.heap.size := HG4.out.size
         clear hO1 hG1)
      | (refine step_append0 (by rfl) (.tmp 57) (.tmp 61) 27 (by rfl) W.heap.size 3 i3 (.int .i64 0) 1 8 Try.underlying27 hi3 h30 h31 h32 rfl (by decide) _ (by rfl) (by (repeat (first | ((with_reducible refine Blk.new_ _ _ _ ?_); simp; done) | (with_reducible refine Blk.alloc ?_ _) | (with_reducible refine Blk.drew_ ?_) | (with_reducible refine HT4.out _ _ _ ?_) | (with_reducible refine HT10.out _ _ _ ?_) | (with_reducible refine HT14.out _ _ _ ?_)))) (by (first | omega | (simp; done) | (simp; omega))) Ai m ci (ints l) (OldRow w0 w) (by rfl) (HRL.out _ (by (repeat (first | (with_reducible exact Chg.refl _ _) | (with_reducible exact HG4.out) | (with_reducible exact HG10.out) | (with_reducible exact HG14.out) | (with_reducible exact HG9.out) | (with_reducible refine Chg.alloc ?_ _) | (with_reducible refine Chg.drew ?_))))) HONE.out HSN.out (by unfold maxLen; omega) (by omega) ?_
         intro v2 w2 hO2 hG2
         have HO10 := hide hO2
         have HG10 : Hid (Gr W w2) := Chg.trans (by (repeat (first | (with_reducible exact Chg.refl _ _) | (with_reducible exact HG4.out) | (with_reducible exact HG10.out) | (with_reducible exact HG14.out) | (with_reducible exact HG9.out) | (with_reducible refine Chg.alloc ?_ _) | (with_reducible refine Chg.drew ?_)))) hG2 (fun _ _ h => h)
         have HT10 := hide hG2.blk
         have HW10 := hide hG2.own
         have hs2 : W.heap.size ≤ w2.heap.size := HG10.out.size
         clear hO2 hG2)
      | (refine step_appendN (by rfl) (.tmp 62) (.tmp 65) 27 (by rfl) W.heap.size 3 i3 (.int .i64 0) 1 8 Try.underlying27 hi3 h30 h31 h32 rfl (by decide) v2 (by rfl) m (ints l) (by (repeat (first | (with_reducible exact HO4.out) | (with_reducible exact HO10.out) | (with_reducible exact HO14.out) | (with_reducible refine World.ownsRow.alloc ?_ _) | (with_reducible refine own_drew ?_) | (with_reducible refine HW10.out _ _ _ _ _ _ ?_) | (with_reducible refine HW14.out _ _ _ _ ?_)))) (Chg.size (S := fun _ => False) (by (repeat (first | (with_reducible exact Chg.refl _ _) | (with_reducible exact HG4.out) | (with_reducible exact HG10.out) | (with_reducible exact HG14.out) | (with_reducible exact HG9.out) | (with_reducible refine Chg.alloc ?_ _) | (with_reducible refine Chg.drew ?_))))) _ 1 1 [.int .i64 s.n] (by rfl) rfl (news_blk (t := 3) (cs := #[.int .i64 s.n]) (by (repeat (first | ((with_reducible refine Blk.new_ _ _ _ ?_); simp; done) | (with_reducible refine Blk.alloc ?_ _) | (with_reducible refine Blk.drew_ ?_) | (with_reducible refine HT4.out _ _ _ ?_) | (with_reducible refine HT10.out _ _ _ ?_) | (with_reducible refine HT14.out _ _ _ ?_))))) (by simp [Value.oneCell']) (by unfold maxLen; omega) (by omega) ?_
         intro v3 w3 hO3 hC3
         obtain ⟨A3, c3, rfl, _⟩ := own_reads hO3
         have HG14 : Hid (Gr W w3) := Gr.then (by (repeat (first | (with_reducible exact Chg.refl _ _) | (with_reducible exact HG4.out) | (with_reducible exact HG10.out) | (with_reducible exact HG14.out) | (with_reducible exact HG9.out) | (with_reducible refine Chg.alloc ?_ _) | (with_reducible refine Chg.drew ?_)))) hC3 (fun i hi => ((HO10.out).lt i hi).1)
         have HO14 := hide hO3
         have HW14 : Hid (∀ base v n xs, (_ : World).ownsRow base 27 1 v n xs → w3.ownsRow base 27 1 v n xs) := fun base v n xs h => own_other (base' := W.heap.size) (e' := 3) (size' := 1) (n' := m) (xs' := ints l) hC3 (by (repeat (first | (with_reducible exact HO4.out) | (with_reducible exact HO10.out) | (with_reducible exact HO14.out) | (with_reducible refine World.ownsRow.alloc ?_ _) | (with_reducible refine own_drew ?_) | (with_reducible refine HW10.out _ _ _ _ _ _ ?_) | (with_reducible refine HW14.out _ _ _ _ ?_)))) h (by decide)
         have hs3 : W.heap.size ≤ w3.heap.size := HG14.out.size
         clear hO3 hC3)
      | (refine step_appendN (by rfl) (.tmp 56) (.tmp 67) 25 (by rfl) W.heap.size 27 i7 (.slice none 0 0) 1 24 Try.underlying25 hi7 h70 h71 h72 rfl (by decide) v1 (by rfl) k us0 (by (repeat (first | (with_reducible exact HO4.out) | (with_reducible exact HO10.out) | (with_reducible exact HO14.out) | (with_reducible refine World.ownsRow.alloc ?_ _) | (with_reducible refine own_drew ?_) | (with_reducible refine HW10.out _ _ _ _ _ _ ?_) | (with_reducible refine HW14.out _ _ _ _ ?_)))) (Chg.size (S := fun _ => False) (by (repeat (first | (with_reducible exact Chg.refl _ _) | (with_reducible exact HG4.out) | (with_reducible exact HG10.out) | (with_reducible exact HG14.out) | (with_reducible exact HG9.out) | (with_reducible refine Chg.alloc ?_ _) | (with_reducible refine Chg.drew ?_))))) _ 1 1 [.slice A3 (m + 1) c3] (by rfl) rfl (news_blk (t := 27) (cs := #[.slice A3 (m + 1) c3]) (by (repeat (first | ((with_reducible refine Blk.new_ _ _ _ ?_); simp; done) | (with_reducible refine Blk.alloc ?_ _) | (with_reducible refine Blk.drew_ ?_) | (with_reducible refine HT4.out _ _ _ ?_) | (with_reducible refine HT10.out _ _ _ ?_) | (with_reducible refine HT14.out _ _ _ ?_))))) (by simp [Value.oneCell']) (by unfold maxLen; omega) (by omega) ?_
         intro v4 w4 hO4 hC4
         have HO3 : Hid (w4.ownsRow W.heap.size 3 1 (.slice A3 (m + 1) c3) (m + 1) (ints (l ++ [s.n]))) := by
           have h1 := own_other (base' := W.heap.size) (e' := 27) (size' := 1) (n' := k) (xs' := us0) hC4 (by (repeat (first | (with_reducible exact HO4.out) | (with_reducible exact HO10.out) | (with_reducible exact HO14.out) | (with_reducible refine World.ownsRow.alloc ?_ _) | (with_reducible refine own_drew ?_) | (with_reducible refine HW10.out _ _ _ _ _ _ ?_) | (with_reducible refine HW14.out _ _ _ _ ?_)))) (base := W.heap.size) (e := 3) (size := 1) (v := .slice A3 (m + 1) c3) (n := m + 1) (xs := ints l ++ [.int .i64 s.n]) (by (repeat (first | (with_reducible exact HO4.out) | (with_reducible exact HO10.out) | (with_reducible exact HO14.out) | (with_reducible refine World.ownsRow.alloc ?_ _) | (with_reducible refine own_drew ?_) | (with_reducible refine HW10.out _ _ _ _ _ _ ?_) | (with_reducible refine HW14.out _ _ _ _ ?_)))) (by decide)
           rw [show ints (l ++ [s.n]) = ints l ++ [.int .i64 s.n] from List.map_append]
           exact h1
         have HG9 : Hid (Gr W w4) := Gr.then (by (repeat (first | (with_reducible exact Chg.refl _ _) | (with_reducible exact HG4.out) | (with_reducible exact HG10.out) | (with_reducible exact HG14.out) | (with_reducible exact HG9.out) | (with_reducible refine Chg.alloc ?_ _) | (with_reducible refine Chg.drew ?_)))) hC4 (fun i hi => ((HO4.out).lt i hi).1)
         have hz := HST.out.2.1.chg HG9.out (fun h => h)
         have k0 : w4.cell? ⟨w.heap.size + 1, 0, none⟩ = some (.int .i64 0) := by rw [hz.cell]; rfl
         have k1 : w4.cell? ⟨w.heap.size + 1, 1, none⟩ = some (.bool false) := by rw [hz.cell]; rfl
         have k2 : w4.cell? ⟨w.heap.size + 1, 2, none⟩ = some (.slice none 0 0) := by rw [hz.cell]; rfl
         have k3 : w4.cell? ⟨w.heap.size + 1, 3, none⟩ = some (.bool false) := by rw [hz.cell]; rfl
         have f0 := hz.frozen 0
         have f1 := hz.frozen 1
         have f2 := hz.frozen 2
         have f3 := hz.frozen 3
         have HZ := hide hz
         clear hz
         have HO9 := hide hO4
         clear hO4 hC4)
      | fail))
  all_goals
    have hfin : w4.ownsRow W.heap.size 27 1 v4 (k + 1) (us0 ++ [.slice A3 (m + 1) c3]) := HO9.out
    obtain ⟨RA, rc, rfl, _⟩ := own_reads hfin
    have HF := hide hfin
    clear hfin HO9 HO4 HO10 HO14
    go_wp2
    have hbF : Blk ((((w4.setCell ⟨w.heap.size + 1, 0, none⟩ (.int .i64 0)).setCell ⟨w.heap.size + 1, 1, none⟩ (.bool false)).setCell ⟨w.heap.size + 1, 2, none⟩ (.slice none 0 0)).setCell ⟨w.heap.size + 1, 3, none⟩ (.bool false)) (w.heap.size + 1) 31 #[.int .i64 0, .bool false, .slice none 0 0, .bool false] := (((HZ.out.set_ 0 _).set_ 1 _).set_ 2 _).set_ 3 _
    have hcF : Chg (· = w.heap.size + 1) w4 ((((w4.setCell ⟨w.heap.size + 1, 0, none⟩ (.int .i64 0)).setCell ⟨w.heap.size + 1, 1, none⟩ (.bool false)).setCell ⟨w.heap.size + 1, 2, none⟩ (.slice none 0 0)).setCell ⟨w.heap.size + 1, 3, none⟩ (.bool false)) := (set4_chg w4 (w.heap.size + 1) _ _ _ _)
    generalize ((((w4.setCell ⟨w.heap.size + 1, 0, none⟩ (.int .i64 0)).setCell ⟨w.heap.size + 1, 1, none⟩ (.bool false)).setCell ⟨w.heap.size + 1, 2, none⟩ (.slice none 0 0)).setCell ⟨w.heap.size + 1, 3, none⟩ (.bool false)) = wF at *
    have j0 : wF.cell? ⟨w.heap.size + 1, 0, none⟩ = some (.int .i64 0) := by rw [hbF.cell]; rfl
    have j1 : wF.cell? ⟨w.heap.size + 1, 1, none⟩ = some (.bool false) := by rw [hbF.cell]; rfl
    have j2 : wF.cell? ⟨w.heap.size + 1, 2, none⟩ = some (.slice none 0 0) := by rw [hbF.cell]; rfl
    have j3 : wF.cell? ⟨w.heap.size + 1, 3, none⟩ = some (.bool false) := by rw [hbF.cell]; rfl
    refine bodyPost_ret (v := .tuple #[.slice RA (k + 1) rc, .agg #[.int .i64 0, .bool false, .slice none 0 0, .bool false], .bool true]) ?_ rfl ?_
    · simp [results, Try.f12, go_sem, j0, j1, j2, j3]
    · have h27 : ∀ i cs, Blk w4 i 27 cs → ¬ i = w.heap.size + 1 := fun i cs hb e => hb.ne_ HZ.out (by decide) e
      have h3 : ∀ i cs, Blk w4 i 3 cs → ¬ i = w.heap.size + 1 := fun i cs hb e => hb.ne_ HZ.out (by decide) e
      have h0' : ∀ i, i < w0.heap.size → ¬ i = w.heap.size + 1 := fun i hi e => by omega
      have hg9 : Gr w w4 := (Gr.ofBelow HST.out.1).trans HG9.out (fun _ _ h => h)
      refine ⟨RA, rc, us0 ++ [.slice A3 (m + 1) c3], none, 0, by simp [AnsD.cells, zeroAns, hL0], ?_, SliceIs.none_, hg9.toBelow.trans (hcF.below (Nat.le_trans HST.out.1.size HG9.out.size) (fun i hi => by omega))⟩
      have e1 : (l ++ [s.n]).length = m + 1 := by rw [List.length_append, HM.out]; rfl
      have hsl2 : SliceIs w4 (OldRow w0 w4) A3 (m + 1) c3 (l ++ [s.n]) := (SliceIs.of_own HO3.out).more (fun i _ hk => Or.inr hk)
      have hfin2 := HF.out
      rw [← e1] at hfin2 hsl2
      have h8 := (H.out.take.gr hg9).snoc hfin2 hsl2
      have h9 := h8.chg hcF h27 h3 h0'
      show RowsIs _ _ _ (L0 ++ [l ++ [s.n]]).length _ _ _
      rw [show (L0 ++ [l ++ [s.n]]).length = k + 1 by simp [hL0]]
      rw [e1] at h9
      exact h9
end Go.Proofs.Ytammpllfmbmdmaa
