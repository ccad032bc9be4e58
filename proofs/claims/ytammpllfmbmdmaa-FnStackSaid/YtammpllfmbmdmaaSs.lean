/- The walk of spec.Stack. -/
import Derived.Test.YtammpllfmbmdmaaWk
import Derived.Test.YtammpllfmbmdmaaSd
namespace Go.Proofs.Ytammpllfmbmdmaa
open Go.RowKit

/-- What spec.Stack answers. -/
def specSt (l : List Int) (s : StepD) : List Int × AnsD × Bool :=
  if (s.what = 1 ∨ s.what = 2) ∧ l = [] then (l, panAns, true)
  else ((specQ 0 l s).1, ⟨(specQ 0 l s).2.1.n, false, [], false⟩, (specQ 0 l s).2.2)

set_option maxHeartbeats 1000000 in
set_option maxRecDepth 100000 in
theorem sstack_none (A : Option Addr) (c : Nat) (s : StepD) (LA : Option Addr) (lc : Nat) (w : World) (h : SliceIs w (Row3 w) A 0 c []) (hw : s.what = 1 ∨ s.what = 2) :
    Calls Try.prog 17 #[.slice A 0 c, .agg (s.cells (.slice LA s.list.length lc))] w (SqOut (specSt [] s) w) := by
  have H := hide h
  have hst := start34 w (s.cells (.slice LA s.list.length lc)) #[.int .i64 0, .bool false, .slice none 0 0, .bool true]
  have HST := hide hst
  have he : specSt [] s = ([], panAns, true) := by unfold specSt; rw [if_pos ⟨hw, rfl⟩]
  rw [he]
  clear h hst he
  unfold StepD.cells at *
  rcases hw with hw | hw
  all_goals
    rw [hw] at HST ⊢
    go_enter Try.func17, Try.ntmps17
    go_wp2
    refine bodyPost_ret (v := .tuple #[.slice A 0 c, .agg #[.int .i64 0, .bool false, .slice none 0 0, .bool true], .bool true]) ?_ rfl ?_
    · simp [results, Try.f17, go_sem]
    · exact ⟨A, c, rfl, sq_same H.out HST.out.1 rfl, HST.out.1⟩

set_option maxHeartbeats 1000000 in
set_option maxRecDepth 100000 in
theorem sstack_some (A : Option Addr) (n c : Nat) (l : List Int) (s : StepD) (LA : Option Addr) (lc : Nat) (w : World) (h : SliceIs w (Row3 w) A n c l) (hn : n ≤ 549755813888) (hw : ¬ ((s.what = 1 ∨ s.what = 2) ∧ l = [])) :
    Calls Try.prog 17 #[.slice A n c, .agg (s.cells (.slice LA s.list.length lc))] w (SqOut (specSt l s) w) := by
  have H := hide h
  have hst := start34 w (s.cells (.slice LA s.list.length lc)) #[.int .i64 0, .bool false, .slice none 0 0, .bool false]
  have hln := h.len
  have he : specSt l s = ((specQ 0 l s).1, ⟨(specQ 0 l s).2.1.n, false, [], false⟩, (specQ 0 l s).2.2) := by unfold specSt; rw [if_neg hw]
  rw [he]
  have hcase : ((s.what == 1) = true ∧ ((n : Int) == 0) = false) ∨ ((s.what == 1) = false ∧ (s.what == 2) = true ∧ ((n : Int) == 0) = false) ∨ ((s.what == 1) = false ∧ (s.what == 2) = false) := by
    by_cases h1 : s.what = 1
    · left
      have hl : l ≠ [] := fun e => hw ⟨Or.inl h1, e⟩
      have : 0 < l.length := List.length_pos_iff.2 hl
      refine ⟨by simp [h1], ?_⟩
      rw [beq_eq_false_iff_ne]; omega
    · by_cases h2 : s.what = 2
      · right; left
        have hl : l ≠ [] := fun e => hw ⟨Or.inr h2, e⟩
        have : 0 < l.length := List.length_pos_iff.2 hl
        refine ⟨by simp [h2], by simp [h2], ?_⟩
        rw [beq_eq_false_iff_ne]; omega
      · right; right
        exact ⟨by simp [h1], by simp [h2]⟩
  have HSL0 := hide (h.rowBelow hst.1)
  have HST := hide hst
  clear h hst he hw
  unfold StepD.cells at *
  rcases hcase with ⟨t1, t2⟩ | ⟨t1, t2, t3⟩ | ⟨t1, t2⟩
  all_goals
    go_enter Try.func17, Try.ntmps17
    go_wp2_with fail
    generalize (w.alloc (.cells #[.int .i64 s.what, .int .i64 s.which, .int .i64 s.index, .int .i64 s.bit, .int .i64 s.n, .int .i64 s.key, .int .i64 s.value, .slice LA s.list.length lc] 34)).alloc (.cells #[.int .i64 0, .bool false, .slice none 0 0, .bool false] 31) = W at *
    have hsq := squeue0 A n c l s LA lc W HSL0.out hn
    unfold StepD.cells at hsq
    refine hsq.mono ?_
    clear hsq
    rintro e w1 ⟨A', c', rfl, hsl, hbl⟩
    have hz := HST.out.2.1.below hbl HST.out.2.1.lt
    have HSL := hide hsl
    have HBL : Hid (Below w.heap.size w w1) := HST.out.1.trans (hbl.mono HST.out.1.size)
    clear hsl hbl
    generalize hat : specQ 0 l s = r at *
    obtain ⟨l', an, fits⟩ := r
    have hpn : an.panicked = false := specQ_pan hat
    simp only at HSL ⊢
    clear hat
    generalize hm : l'.length = m at *
    have HM := hide hm
    clear hm
    have hsz1 : w.heap.size + 1 < w1.heap.size := hz.lt
    have k0 : w1.cell? ⟨w.heap.size + 1, 0, none⟩ = some (.int .i64 0) := by rw [hz.cell]; rfl
    have k1 : w1.cell? ⟨w.heap.size + 1, 1, none⟩ = some (.bool false) := by rw [hz.cell]; rfl
    have k2 : w1.cell? ⟨w.heap.size + 1, 2, none⟩ = some (.slice none 0 0) := by rw [hz.cell]; rfl
    have k3 : w1.cell? ⟨w.heap.size + 1, 3, none⟩ = some (.bool false) := by rw [hz.cell]; rfl
    have f0 := hz.frozen 0
    have f1 := hz.frozen 1
    have f2 := hz.frozen 2
    have f3 := hz.frozen 3
    have HZ := hide hz
    clear hz
    unfold AnsD.cells
    go_wp2
    go_region
    go_wp2
    have hbF : Blk (((((w1.setCell ⟨w.heap.size + 1, 0, none⟩ (.int .i64 an.n)).setCell ⟨w.heap.size + 1, 1, none⟩ (.bool false)).setCell ⟨w.heap.size + 1, 2, none⟩ (.slice none 0 0)).setCell ⟨w.heap.size + 1, 3, none⟩ (.bool false)).alloc (.cells #[.int .i64 an.n, .bool false, .slice none 0 0, .bool false] 31)).drew (w.heap.size + 1) 31 #[.int .i64 an.n, .bool false, .slice none 0 0, .bool false] := ((((HZ.out.set_ 0 _).set_ 1 _).set_ 2 _).set_ 3 _).alloc _
    have hcF : Chg (· = w.heap.size + 1) w1 (((((w1.setCell ⟨w.heap.size + 1, 0, none⟩ (.int .i64 an.n)).setCell ⟨w.heap.size + 1, 1, none⟩ (.bool false)).setCell ⟨w.heap.size + 1, 2, none⟩ (.slice none 0 0)).setCell ⟨w.heap.size + 1, 3, none⟩ (.bool false)).alloc (.cells #[.int .i64 an.n, .bool false, .slice none 0 0, .bool false] 31)).drew := ((set4_chg w1 (w.heap.size + 1) _ _ _ _).alloc _).drew
    generalize (((((w1.setCell ⟨w.heap.size + 1, 0, none⟩ (.int .i64 an.n)).setCell ⟨w.heap.size + 1, 1, none⟩ (.bool false)).setCell ⟨w.heap.size + 1, 2, none⟩ (.slice none 0 0)).setCell ⟨w.heap.size + 1, 3, none⟩ (.bool false)).alloc (.cells #[.int .i64 an.n, .bool false, .slice none 0 0, .bool false] 31)).drew = wF at *
    have j0 : wF.cell? ⟨w.heap.size + 1, 0, none⟩ = some (.int .i64 an.n) := by rw [hbF.cell]; rfl
    have j1 : wF.cell? ⟨w.heap.size + 1, 1, none⟩ = some (.bool false) := by rw [hbF.cell]; rfl
    have j2 : wF.cell? ⟨w.heap.size + 1, 2, none⟩ = some (.slice none 0 0) := by rw [hbF.cell]; rfl
    have j3 : wF.cell? ⟨w.heap.size + 1, 3, none⟩ = some (.bool false) := by rw [hbF.cell]; rfl
    have hblF : Below w.heap.size w wF := HBL.out.trans (hcF.below (by omega) (fun i hi => by omega))
    refine bodyPost_ret (v := .tuple #[.slice A' m c', .agg #[.int .i64 an.n, .bool false, .slice none 0 0, .bool false], .bool fits]) ?_ rfl ?_
    · simp [results, Try.f17, go_sem, j0, j1, j2, j3]
    · unfold SqOut
      simp only [HM.out]
      exact ⟨A', c', rfl, HSL.out.row hcF (fun i cs hb e => hb.ne_ HZ.out (by decide) e), hblF⟩

theorem sstack_any (A : Option Addr) (n c : Nat) (l : List Int) (s : StepD) (LA : Option Addr) (lc : Nat) (w : World) (h : SliceIs w (Row3 w) A n c l) (hn : n ≤ 549755813888) :
    Calls Try.prog 17 #[.slice A n c, .agg (s.cells (.slice LA s.list.length lc))] w (SqOut (specSt l s) w) := by
  by_cases hw : (s.what = 1 ∨ s.what = 2) ∧ l = []
  · obtain ⟨h1, rfl⟩ := hw
    have hn0 : n = 0 := by have := h.len; simpa using this.symm
    subst hn0
    exact sstack_none A c s LA lc w h h1
  · exact sstack_some A n c l s LA lc w h hn hw
end Go.Proofs.Ytammpllfmbmdmaa
