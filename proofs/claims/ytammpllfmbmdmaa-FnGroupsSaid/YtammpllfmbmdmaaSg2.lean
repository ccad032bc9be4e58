/- The walk of spec.Groups: Push, Pop and PushGroup. Printed by gen_sg.py 2. -/
import Derived.Test.YtammpllfmbmdmaaSg
import Derived.Deep.RegionHeld3
import Derived.Deep.DrawnRows
namespace Go.Proofs.Ytammpllfmbmdmaa
open Go.RowKit
attribute [local go_sem ↓] Go.wp_at_zero Go.wp_at_succ

/-- One more list. -/
theorem RowsIs.snoc {w0 w : World} {A RA : Option Addr} {n c rc base : Nat} {us : List Value} {L : List (List Int)} {l : List Int} {Ai : Option Addr} {ci : Nat} (h : RowsIs w0 w A n c us L) (ho : w.ownsRow base 27 1 (.slice RA (n + 1) rc) (n + 1) (us ++ [.slice Ai l.length ci])) (hs : SliceIs w (OldRow w0 w) Ai l.length ci l) : RowsIs w0 w RA (n + 1) rc (us ++ [.slice Ai l.length ci]) (L ++ [l]) := by
  have h1 := h.len
  have h2 := h.lenL
  refine RowsIs.of_own ho (by simp [h2]) (fun i u x hu hx => ?_)
  rcases Nat.lt_or_ge i n with hi | hi
  · rw [List.getElem?_append_left (by omega)] at hu hx
    exact h.each i u x hu hx
  · have h3 := (List.getElem?_eq_some_iff.1 hu).1
    have hin : i = n := by simp at h3; omega
    subst hin
    rw [List.getElem?_append_right (by omega), h1, Nat.sub_self] at hu
    rw [List.getElem?_append_right (by omega), h2, Nat.sub_self] at hx
    have e1 : Value.slice Ai l.length ci = u := by simpa using hu
    have e2 : l = x := by simpa using hx
    subst e1; subst e2
    exact ⟨Ai, ci, rfl, hs⟩

set_option maxHeartbeats 1000000 in
set_option maxRecDepth 100000 in
theorem sgroups_4 (w0 : World) (A : Option Addr) (n c : Nat) (us : List Value) (L : List (List Int)) (s : StepD) (LA : Option Addr) (lc : Nat) (w : World) (h : RowsIs w0 w A n c us L) (hn : n ≤ 549755813888) (hw0 : w0.heap.size ≤ w.heap.size) (hs : SliceIs w (OldRow w0 w) LA s.list.length lc s.list) (hw : s.what = 4) :
    Calls Try.prog 12 #[.slice A n c, .agg (s.cells (.slice LA s.list.length lc))] w (SgOut w0 (specGr L s) w) := by
  have hst := start34 w (s.cells (.slice LA s.list.length lc)) #[.int .i64 0, .bool false, .slice none 0 0, .bool false]
  have h7 : ((w.alloc (.cells (s.cells (.slice LA s.list.length lc)) 34)).alloc (.cells #[.int .i64 0, .bool false, .slice none 0 0, .bool false] 31)).cell? ⟨w.heap.size, 7, none⟩ = some (.slice LA s.list.length lc) := by
    have hb : Blk ((w.alloc (.cells (s.cells (.slice LA s.list.length lc)) 34)).alloc (.cells #[.int .i64 0, .bool false, .slice none 0 0, .bool false] 31)) w.heap.size 34 (s.cells (.slice LA s.list.length lc)) := (Blk.new _ _ _).alloc _
    rw [hb.cell]; rfl
  have H := hide h
  have HST := hide hst
  have HS := hide hs
  have hLn := h.lenL
  have hq : specGr L s = (L ++ [s.list], zeroAns, true) := by simp [specGr, hw]
  rw [hq]
  have hone : Hid (∀ u ∈ us, u.oneCell' = true) := fun u hu => by
    obtain ⟨i, hi⟩ := List.getElem?_of_mem hu
    obtain ⟨l, hl⟩ : ∃ l, L[i]? = some l := ⟨_, List.getElem?_eq_getElem (by have := (List.getElem?_eq_some_iff.1 hi).1; have := h.len; omega)⟩
    obtain ⟨Ai, ci, e, _⟩ := h.each i u l hi hl
    rw [e]; rfl
  clear h hst hs hq
  obtain ⟨i7, hi7, h70, h71, h72⟩ := info_parts info27
  unfold StepD.cells at *
  rw [hw] at HST h7 ⊢
  go_enter Try.func12, Try.ntmps12
  rcases Nat.eq_zero_or_pos n with rfl | hn0
  · go_wp2
    generalize (w.alloc (.cells #[.int .i64 4, .int .i64 s.which, .int .i64 s.index, .int .i64 s.bit, .int .i64 s.n, .int .i64 s.key, .int .i64 s.value, .slice LA s.list.length lc] 34)).alloc (.cells #[.int .i64 0, .bool false, .slice none 0 0, .bool false] 31) = W at *
    have HRD : Hid (∀ X, Gr W X → Reads X (Row27 W) 1 A 0 us) := fun X hX => ((H.out.gr (Gr.ofBelow HST.out.1)).reads.chg hX (fun _ _ _ h => h))
    have HSZ : Hid (W.heap.size = w.heap.size + 2) := HST.out.2.2
    have HSK : Hid (∀ X, Chg (fun i => i = w.heap.size + 1) W X → X.cell? ⟨w.heap.size, 7, none⟩ = some (.slice LA s.list.length lc)) := fun X hX => (hX.cell (p := ⟨w.heap.size, 7, none⟩) (by have := HSZ.out; show w.heap.size < _; omega) (fun e => by have e2 : w.heap.size = w.heap.size + 1 := e; omega)).trans h7
    go_region_held3 (fun w' => w'.cell? ⟨w.heap.size, 7, none⟩ = some (.slice LA s.list.length lc))
      (exact HSK.out _ (by (repeat (first | (with_reducible exact Chg.refl _ _) | (with_reducible refine Chg.mono HG4.out ?_; exact fun _ _ h => h.elim) | (with_reducible refine Chg.mono HG10.out ?_; exact fun _ _ h => h.elim) | (with_reducible refine Chg.mono HG14.out ?_; exact fun _ _ h => h.elim) | (with_reducible refine Chg.mono HG9.out ?_; exact fun _ _ h => h.elim) | (with_reducible refine Chg.alloc ?_ _) | (with_reducible refine Chg.drew ?_) | ((with_reducible refine Chg.setCell (S := fun i => i = w.heap.size + 1) ?_ ?_ _); rotate_left; exact fun _ => rfl)))))
      ((first
        | (refine step_append0 (by rfl) (.tmp 99) (.tmp 100) 25 (by rfl) W.heap.size 27 i7 (.slice none 0 0) 1 24 Try.underlying25 hi7 h70 h71 h72 rfl (by decide) _ (by rfl) (by (repeat (first | ((with_reducible refine Blk.new_ _ _ _ ?_); simp; done) | (with_reducible refine Blk.alloc ?_ _) | (with_reducible refine Blk.drew_ ?_) | (with_reducible refine HT4.out _ _ _ ?_) | (with_reducible refine HT10.out _ _ _ ?_) | (with_reducible refine HT14.out _ _ _ ?_)))) (by (first | omega | (simp; done) | (simp; omega))) A 0 c us (Row27 W) (by rfl) (HRD.out _ (by (repeat (first | (with_reducible exact Chg.refl _ _) | (with_reducible exact HG4.out) | (with_reducible exact HG10.out) | (with_reducible exact HG14.out) | (with_reducible exact HG9.out) | (with_reducible refine Chg.alloc ?_ _) | (with_reducible refine Chg.drew ?_))))) hone.out H.out.nil_ (by unfold maxLen; omega) (by omega) ?_
           intro v1 w1 hO1 hG1
           have HO4 := hide hO1
           have HG4 : Hid (Gr W w1) := Chg.trans (by (repeat (first | (with_reducible exact Chg.refl _ _) | (with_reducible exact HG4.out) | (with_reducible exact HG10.out) | (with_reducible exact HG14.out) | (with_reducible exact HG9.out) | (with_reducible refine Chg.alloc ?_ _) | (with_reducible refine Chg.drew ?_)))) hG1 (fun _ _ h => h)
           have HT4 := hide hG1.blk
           have hs1 : W.heap.size ≤ w1.heap.size := HG4.out.size
           clear hO1 hG1)
        | (refine step_appendN (by rfl) (.tmp 101) (.tmp 104) 25 (by rfl) W.heap.size 27 i7 (.slice none 0 0) 1 24 Try.underlying25 hi7 h70 h71 h72 rfl (by decide) v1 (by rfl) 0 us (by (repeat (first | (with_reducible exact HO4.out) | (with_reducible exact HO10.out) | (with_reducible exact HO14.out) | (with_reducible refine World.ownsRow.alloc ?_ _) | (with_reducible refine own_drew ?_) | (with_reducible refine HW10.out _ _ _ _ _ _ ?_) | (with_reducible refine HW14.out _ _ _ _ ?_)))) (Chg.size (S := fun _ => False) (by (repeat (first | (with_reducible exact Chg.refl _ _) | (with_reducible exact HG4.out) | (with_reducible exact HG10.out) | (with_reducible exact HG14.out) | (with_reducible exact HG9.out) | (with_reducible refine Chg.alloc ?_ _) | (with_reducible refine Chg.drew ?_))))) _ 1 1 [.slice LA s.list.length lc] (by rfl) rfl (news_blk (t := 27) (cs := #[.slice LA s.list.length lc]) (by (repeat (first | ((with_reducible refine Blk.new_ _ _ _ ?_); simp; done) | (with_reducible refine Blk.alloc ?_ _) | (with_reducible refine Blk.drew_ ?_) | (with_reducible refine HT4.out _ _ _ ?_) | (with_reducible refine HT10.out _ _ _ ?_) | (with_reducible refine HT14.out _ _ _ ?_))))) (by simp [Value.oneCell']) (by unfold maxLen; omega) (by omega) ?_
           intro v2 w2 hO2 hC2
           have HG9 : Hid (Gr W w2) := Gr.then (by (repeat (first | (with_reducible exact Chg.refl _ _) | (with_reducible exact HG4.out) | (with_reducible exact HG10.out) | (with_reducible exact HG14.out) | (with_reducible exact HG9.out) | (with_reducible refine Chg.alloc ?_ _) | (with_reducible refine Chg.drew ?_)))) hC2 (fun i hi => ((HO4.out).lt i hi).1)
           have hz := HST.out.2.1.chg HG9.out (fun h => h)
           have k0 : w2.cell? ⟨w.heap.size + 1, 0, none⟩ = some (.int .i64 0) := by rw [hz.cell]; rfl
           have k1 : w2.cell? ⟨w.heap.size + 1, 1, none⟩ = some (.bool false) := by rw [hz.cell]; rfl
           have k2 : w2.cell? ⟨w.heap.size + 1, 2, none⟩ = some (.slice none 0 0) := by rw [hz.cell]; rfl
           have k3 : w2.cell? ⟨w.heap.size + 1, 3, none⟩ = some (.bool false) := by rw [hz.cell]; rfl
           have f0 := hz.frozen 0
           have f1 := hz.frozen 1
           have f2 := hz.frozen 2
           have f3 := hz.frozen 3
           have HZ := hide hz
           clear hz
           have HO9 := hide hO2
           clear hO2 hC2)
        | fail))
    all_goals
      have hfin : w2.ownsRow W.heap.size 27 1 v2 (0 + 1) (us ++ [.slice LA s.list.length lc]) := HO9.out
      obtain ⟨RA, rc, rfl, _⟩ := own_reads hfin
      have HF := hide hfin
      clear hfin HO9 HO4
      go_wp2
      have hbF : Blk ((((w2.setCell ⟨w.heap.size + 1, 0, none⟩ (.int .i64 0)).setCell ⟨w.heap.size + 1, 1, none⟩ (.bool false)).setCell ⟨w.heap.size + 1, 2, none⟩ (.slice none 0 0)).setCell ⟨w.heap.size + 1, 3, none⟩ (.bool false)) (w.heap.size + 1) 31 #[.int .i64 0, .bool false, .slice none 0 0, .bool false] := (((HZ.out.set_ 0 _).set_ 1 _).set_ 2 _).set_ 3 _
      have hcF : Chg (· = w.heap.size + 1) w2 ((((w2.setCell ⟨w.heap.size + 1, 0, none⟩ (.int .i64 0)).setCell ⟨w.heap.size + 1, 1, none⟩ (.bool false)).setCell ⟨w.heap.size + 1, 2, none⟩ (.slice none 0 0)).setCell ⟨w.heap.size + 1, 3, none⟩ (.bool false)) := (set4_chg w2 (w.heap.size + 1) _ _ _ _)
      generalize ((((w2.setCell ⟨w.heap.size + 1, 0, none⟩ (.int .i64 0)).setCell ⟨w.heap.size + 1, 1, none⟩ (.bool false)).setCell ⟨w.heap.size + 1, 2, none⟩ (.slice none 0 0)).setCell ⟨w.heap.size + 1, 3, none⟩ (.bool false)) = wF at *
      have j0 : wF.cell? ⟨w.heap.size + 1, 0, none⟩ = some (.int .i64 0) := by rw [hbF.cell]; rfl
      have j1 : wF.cell? ⟨w.heap.size + 1, 1, none⟩ = some (.bool false) := by rw [hbF.cell]; rfl
      have j2 : wF.cell? ⟨w.heap.size + 1, 2, none⟩ = some (.slice none 0 0) := by rw [hbF.cell]; rfl
      have j3 : wF.cell? ⟨w.heap.size + 1, 3, none⟩ = some (.bool false) := by rw [hbF.cell]; rfl
      refine bodyPost_ret (v := .tuple #[.slice RA (0 + 1) rc, .agg #[.int .i64 0, .bool false, .slice none 0 0, .bool false], .bool true]) ?_ rfl ?_
      · simp [results, Try.f12, go_sem, j0, j1, j2, j3]
      · have h27 : ∀ i cs, Blk w2 i 27 cs → ¬ i = w.heap.size + 1 := fun i cs hb e => hb.ne_ HZ.out (by decide) e
        have h3 : ∀ i cs, Blk w2 i 3 cs → ¬ i = w.heap.size + 1 := fun i cs hb e => hb.ne_ HZ.out (by decide) e
        have h0' : ∀ i, i < w0.heap.size → ¬ i = w.heap.size + 1 := fun i hi e => by omega
        have hg9 : Gr w w2 := (Gr.ofBelow HST.out.1).trans HG9.out (fun _ _ h => h)
        refine ⟨RA, rc, us ++ [.slice LA s.list.length lc], none, 0, by simp [AnsD.cells, zeroAns, hLn], ?_, SliceIs.none_, hg9.toBelow.trans (hcF.below (Nat.le_trans HST.out.1.size HG9.out.size) (fun i hi => by omega))⟩
        have h8 := (H.out.gr hg9).snoc (l := s.list) HF.out ((HS.out.chg hg9 (fun _ _ _ h => h)).more (fun i _ hk => OldRow.chg hg9 (fun _ _ _ h => h) i hk))
        have h9 := h8.chg hcF h27 h3 h0'
        show RowsIs _ _ _ (L ++ [s.list]).length _ _ _
        rw [show (L ++ [s.list]).length = 0 + 1 by simp [hLn]]
        exact h9
  · go_wp2
    generalize (w.alloc (.cells #[.int .i64 4, .int .i64 s.which, .int .i64 s.index, .int .i64 s.bit, .int .i64 s.n, .int .i64 s.key, .int .i64 s.value, .slice LA s.list.length lc] 34)).alloc (.cells #[.int .i64 0, .bool false, .slice none 0 0, .bool false] 31) = W at *
    have HRD : Hid (∀ X, Gr W X → Reads X (Row27 W) 1 A n us) := fun X hX => ((H.out.gr (Gr.ofBelow HST.out.1)).reads.chg hX (fun _ _ _ h => h))
    have HSZ : Hid (W.heap.size = w.heap.size + 2) := HST.out.2.2
    have HSK : Hid (∀ X, Chg (fun i => i = w.heap.size + 1) W X → X.cell? ⟨w.heap.size, 7, none⟩ = some (.slice LA s.list.length lc)) := fun X hX => (hX.cell (p := ⟨w.heap.size, 7, none⟩) (by have := HSZ.out; show w.heap.size < _; omega) (fun e => by have e2 : w.heap.size = w.heap.size + 1 := e; omega)).trans h7
    go_region_held3 (fun w' => w'.cell? ⟨w.heap.size, 7, none⟩ = some (.slice LA s.list.length lc))
      (exact HSK.out _ (by (repeat (first | (with_reducible exact Chg.refl _ _) | (with_reducible refine Chg.mono HG4.out ?_; exact fun _ _ h => h.elim) | (with_reducible refine Chg.mono HG10.out ?_; exact fun _ _ h => h.elim) | (with_reducible refine Chg.mono HG14.out ?_; exact fun _ _ h => h.elim) | (with_reducible refine Chg.mono HG9.out ?_; exact fun _ _ h => h.elim) | (with_reducible refine Chg.alloc ?_ _) | (with_reducible refine Chg.drew ?_) | ((with_reducible refine Chg.setCell (S := fun i => i = w.heap.size + 1) ?_ ?_ _); rotate_left; exact fun _ => rfl)))))
      ((first
        | (refine step_append0 (by rfl) (.tmp 99) (.tmp 100) 25 (by rfl) W.heap.size 27 i7 (.slice none 0 0) 1 24 Try.underlying25 hi7 h70 h71 h72 rfl (by decide) _ (by rfl) (by (repeat (first | ((with_reducible refine Blk.new_ _ _ _ ?_); simp; done) | (with_reducible refine Blk.alloc ?_ _) | (with_reducible refine Blk.drew_ ?_) | (with_reducible refine HT4.out _ _ _ ?_) | (with_reducible refine HT10.out _ _ _ ?_) | (with_reducible refine HT14.out _ _ _ ?_)))) (by (first | omega | (simp; done) | (simp; omega))) A n c us (Row27 W) (by rfl) (HRD.out _ (by (repeat (first | (with_reducible exact Chg.refl _ _) | (with_reducible exact HG4.out) | (with_reducible exact HG10.out) | (with_reducible exact HG14.out) | (with_reducible exact HG9.out) | (with_reducible refine Chg.alloc ?_ _) | (with_reducible refine Chg.drew ?_))))) hone.out H.out.nil_ (by unfold maxLen; omega) (by omega) ?_
           intro v1 w1 hO1 hG1
           have HO4 := hide hO1
           have HG4 : Hid (Gr W w1) := Chg.trans (by (repeat (first | (with_reducible exact Chg.refl _ _) | (with_reducible exact HG4.out) | (with_reducible exact HG10.out) | (with_reducible exact HG14.out) | (with_reducible exact HG9.out) | (with_reducible refine Chg.alloc ?_ _) | (with_reducible refine Chg.drew ?_)))) hG1 (fun _ _ h => h)
           have HT4 := hide hG1.blk
           have hs1 : W.heap.size ≤ w1.heap.size := HG4.out.size
           clear hO1 hG1)
        | (refine step_appendN (by rfl) (.tmp 101) (.tmp 104) 25 (by rfl) W.heap.size 27 i7 (.slice none 0 0) 1 24 Try.underlying25 hi7 h70 h71 h72 rfl (by decide) v1 (by rfl) n us (by (repeat (first | (with_reducible exact HO4.out) | (with_reducible exact HO10.out) | (with_reducible exact HO14.out) | (with_reducible refine World.ownsRow.alloc ?_ _) | (with_reducible refine own_drew ?_) | (with_reducible refine HW10.out _ _ _ _ _ _ ?_) | (with_reducible refine HW14.out _ _ _ _ ?_)))) (Chg.size (S := fun _ => False) (by (repeat (first | (with_reducible exact Chg.refl _ _) | (with_reducible exact HG4.out) | (with_reducible exact HG10.out) | (with_reducible exact HG14.out) | (with_reducible exact HG9.out) | (with_reducible refine Chg.alloc ?_ _) | (with_reducible refine Chg.drew ?_))))) _ 1 1 [.slice LA s.list.length lc] (by rfl) rfl (news_blk (t := 27) (cs := #[.slice LA s.list.length lc]) (by (repeat (first | ((with_reducible refine Blk.new_ _ _ _ ?_); simp; done) | (with_reducible refine Blk.alloc ?_ _) | (with_reducible refine Blk.drew_ ?_) | (with_reducible refine HT4.out _ _ _ ?_) | (with_reducible refine HT10.out _ _ _ ?_) | (with_reducible refine HT14.out _ _ _ ?_))))) (by simp [Value.oneCell']) (by unfold maxLen; omega) (by omega) ?_
           intro v2 w2 hO2 hC2
           have HG9 : Hid (Gr W w2) := Gr.then (by (repeat (first | (with_reducible exact Chg.refl _ _) | (with_reducible exact HG4.out) | (with_reducible exact HG10.out) | (with_reducible exact HG14.out) | (with_reducible exact HG9.out) | (with_reducible refine Chg.alloc ?_ _) | (with_reducible refine Chg.drew ?_)))) hC2 (fun i hi => ((HO4.out).lt i hi).1)
           have hz := HST.out.2.1.chg HG9.out (fun h => h)
           have k0 : w2.cell? ⟨w.heap.size + 1, 0, none⟩ = some (.int .i64 0) := by rw [hz.cell]; rfl
           have k1 : w2.cell? ⟨w.heap.size + 1, 1, none⟩ = some (.bool false) := by rw [hz.cell]; rfl
           have k2 : w2.cell? ⟨w.heap.size + 1, 2, none⟩ = some (.slice none 0 0) := by rw [hz.cell]; rfl
           have k3 : w2.cell? ⟨w.heap.size + 1, 3, none⟩ = some (.bool false) := by rw [hz.cell]; rfl
           have f0 := hz.frozen 0
           have f1 := hz.frozen 1
           have f2 := hz.frozen 2
           have f3 := hz.frozen 3
           have HZ := hide hz
           clear hz
           have HO9 := hide hO2
           clear hO2 hC2)
        | fail))
    all_goals
      have hfin : w2.ownsRow W.heap.size 27 1 v2 (n + 1) (us ++ [.slice LA s.list.length lc]) := HO9.out
      obtain ⟨RA, rc, rfl, _⟩ := own_reads hfin
      have HF := hide hfin
      clear hfin HO9 HO4
      go_wp2
      have hbF : Blk ((((w2.setCell ⟨w.heap.size + 1, 0, none⟩ (.int .i64 0)).setCell ⟨w.heap.size + 1, 1, none⟩ (.bool false)).setCell ⟨w.heap.size + 1, 2, none⟩ (.slice none 0 0)).setCell ⟨w.heap.size + 1, 3, none⟩ (.bool false)) (w.heap.size + 1) 31 #[.int .i64 0, .bool false, .slice none 0 0, .bool false] := (((HZ.out.set_ 0 _).set_ 1 _).set_ 2 _).set_ 3 _
      have hcF : Chg (· = w.heap.size + 1) w2 ((((w2.setCell ⟨w.heap.size + 1, 0, none⟩ (.int .i64 0)).setCell ⟨w.heap.size + 1, 1, none⟩ (.bool false)).setCell ⟨w.heap.size + 1, 2, none⟩ (.slice none 0 0)).setCell ⟨w.heap.size + 1, 3, none⟩ (.bool false)) := (set4_chg w2 (w.heap.size + 1) _ _ _ _)
      generalize ((((w2.setCell ⟨w.heap.size + 1, 0, none⟩ (.int .i64 0)).setCell ⟨w.heap.size + 1, 1, none⟩ (.bool false)).setCell ⟨w.heap.size + 1, 2, none⟩ (.slice none 0 0)).setCell ⟨w.heap.size + 1, 3, none⟩ (.bool false)) = wF at *
      have j0 : wF.cell? ⟨w.heap.size + 1, 0, none⟩ = some (.int .i64 0) := by rw [hbF.cell]; rfl
      have j1 : wF.cell? ⟨w.heap.size + 1, 1, none⟩ = some (.bool false) := by rw [hbF.cell]; rfl
      have j2 : wF.cell? ⟨w.heap.size + 1, 2, none⟩ = some (.slice none 0 0) := by rw [hbF.cell]; rfl
      have j3 : wF.cell? ⟨w.heap.size + 1, 3, none⟩ = some (.bool false) := by rw [hbF.cell]; rfl
      refine bodyPost_ret (v := .tuple #[.slice RA (n + 1) rc, .agg #[.int .i64 0, .bool false, .slice none 0 0, .bool false], .bool true]) ?_ rfl ?_
      · simp [results, Try.f12, go_sem, j0, j1, j2, j3]
      · have h27 : ∀ i cs, Blk w2 i 27 cs → ¬ i = w.heap.size + 1 := fun i cs hb e => hb.ne_ HZ.out (by decide) e
        have h3 : ∀ i cs, Blk w2 i 3 cs → ¬ i = w.heap.size + 1 := fun i cs hb e => hb.ne_ HZ.out (by decide) e
        have h0' : ∀ i, i < w0.heap.size → ¬ i = w.heap.size + 1 := fun i hi e => by omega
        have hg9 : Gr w w2 := (Gr.ofBelow HST.out.1).trans HG9.out (fun _ _ h => h)
        refine ⟨RA, rc, us ++ [.slice LA s.list.length lc], none, 0, by simp [AnsD.cells, zeroAns, hLn], ?_, SliceIs.none_, hg9.toBelow.trans (hcF.below (Nat.le_trans HST.out.1.size HG9.out.size) (fun i hi => by omega))⟩
        have h8 := (H.out.gr hg9).snoc (l := s.list) HF.out ((HS.out.chg hg9 (fun _ _ _ h => h)).more (fun i _ hk => OldRow.chg hg9 (fun _ _ _ h => h) i hk))
        have h9 := h8.chg hcF h27 h3 h0'
        show RowsIs _ _ _ (L ++ [s.list]).length _ _ _
        rw [show (L ++ [s.list]).length = n + 1 by simp [hLn]]
        exact h9

end Go.Proofs.Ytammpllfmbmdmaa
