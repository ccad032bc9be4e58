/- The walk of spec.Queue. Printed by gen_sq.py. -/
import Derived.Test.YtammpllfmbmdmaaApp
namespace Go.Proofs.Ytammpllfmbmdmaa
open Go.RowKit

/-- What spec.Queue hands back. -/
def SqOut (r : List Int × AnsD × Bool) (w : World) (e : Ending) (w' : World) : Prop :=
  ∃ A' c', e = .returned (.tuple #[.slice A' r.1.length c', .agg (r.2.1.cells (.slice none 0 0)), .bool r.2.2]) ∧ SliceIs w' (Row3 w') A' r.1.length c' r.1 ∧ Below w.heap.size w w'

/-- How spec.Queue starts. -/
theorem start34 (w : World) (cs z : Array Value) : Below w.heap.size w ((w.alloc (.cells cs 34)).alloc (.cells z 31)) ∧ Blk ((w.alloc (.cells cs 34)).alloc (.cells z 31)) (w.heap.size + 1) 31 z ∧ ((w.alloc (.cells cs 34)).alloc (.cells z 31)).heap.size = w.heap.size + 2 :=
  ⟨((Below.refl _ _).alloc (Nat.le_refl _) _).alloc (by simp) _, Blk.new_ _ _ _ (by simp), by simp⟩

/-- How it ends where the list is the one that came. -/
theorem sq_same {A : Option Addr} {n c : Nat} {l : List Int} {w w' : World} (h : SliceIs w (Row3 w) A n c l) (hb : Below w.heap.size w w') (hl : l.length = n) : SliceIs w' (Row3 w') A l.length c l := by
  rw [hl]; exact h.rowBelow hb

theorem reads_blk {w : World} {g : Nat} {x : Int} (h : Blk w g 3 #[.int .i64 x]) : Reads w (fun _ => True) 1 (some ⟨g, 0, none⟩) 1 (ints [x]) :=
  ⟨rfl, fun _ => ⟨_, rfl, trivial, h.lt, fun j u hj => by
    match j, hj with
    | 0, hj =>
      simp at hj; subst hj
      rw [add_plain, h.cell]; rfl⟩⟩
theorem reads_new (w : World) (x : Int) : Reads (w.alloc (.cells #[.int .i64 x] 3)) (fun _ => True) 1 (some ⟨w.heap.size, 0, none⟩) 1 (ints [x]) := reads_blk (Blk.new _ _ _)

set_option maxHeartbeats 1000000 in
set_option maxRecDepth 100000 in
theorem squeue0_0 (A : Option Addr) (n c : Nat) (l : List Int) (s : StepD) (LA : Option Addr) (lc : Nat) (w : World) (h : SliceIs w (Row3 w) A n c l) (_hn : n ≤ 549755813888) (hw : s.what = 0) :
    Calls Try.prog 16 #[.int .i64 0, .slice A n c, .agg (s.cells (.slice LA s.list.length lc))] w (SqOut (specQ 0 l s) w) := by
  have H := hide h
  have hst := start34 w (s.cells (.slice LA s.list.length lc)) #[.int .i64 0, .bool false, .slice none 0 0, .bool false]
  have hln := h.len
  have HST := hide hst
  clear h hst
  unfold StepD.cells at *
  rw [hw] at HST ⊢
  go_enter Try.func16, Try.ntmps16
  have hsn : ((w.alloc (.cells #[.int .i64 0, .int .i64 s.which, .int .i64 s.index, .int .i64 s.bit, .int .i64 s.n, .int .i64 s.key, .int .i64 s.value, .slice LA s.list.length lc] 34)).alloc (.cells #[.int .i64 0, .bool false, .slice none 0 0, .bool false] 31)).cell? ⟨w.heap.size, 4, none⟩ = some (.int .i64 s.n) := by
    have hb : Blk ((w.alloc (.cells #[.int .i64 0, .int .i64 s.which, .int .i64 s.index, .int .i64 s.bit, .int .i64 s.n, .int .i64 s.key, .int .i64 s.value, .slice LA s.list.length lc] 34)).alloc (.cells #[.int .i64 0, .bool false, .slice none 0 0, .bool false] 31)) w.heap.size 34 #[.int .i64 0, .int .i64 s.which, .int .i64 s.index, .int .i64 s.bit, .int .i64 s.n, .int .i64 s.key, .int .i64 s.value, .slice LA s.list.length lc] := (Blk.new _ _ _).alloc _
    rw [hb.cell]; rfl
  go_wp2
  generalize (w.alloc (.cells #[.int .i64 0, .int .i64 s.which, .int .i64 s.index, .int .i64 s.bit, .int .i64 s.n, .int .i64 s.key, .int .i64 s.value, .slice LA s.list.length lc] 34)).alloc (.cells #[.int .i64 0, .bool false, .slice none 0 0, .bool false] 31) = W at *
  have HZ0 : Hid (Blk W (w.heap.size + 1) 31 #[.int .i64 0, .bool false, .slice none 0 0, .bool false]) := HST.out.2.1
  have HWS : Hid (W.heap.size = w.heap.size + 2) := HST.out.2.2
  have HBW : Hid (Below w.heap.size w W) := HST.out.1
  have HSN : Hid (∀ W2 : World, Below W.heap.size W W2 → W2.cell? ⟨w.heap.size, 4, none⟩ = some (.int .i64 s.n)) := fun W2 hb => (hb.cell (p := ⟨w.heap.size, 4, none⟩) (by have := HWS.out; show w.heap.size < _; omega)).trans hsn
  have hsnA : ∀ o, (W.alloc o).cell? ⟨w.heap.size, 4, none⟩ = some (.int .i64 s.n) := fun o => HSN.out _ ((Below.refl _ _).alloc (Nat.le_refl _) _)
  have hslW := H.out.rowBelow HBW.out
  have HRD : Hid (∀ W2 : World, Below W.heap.size W W2 → Reads W2 (Row3 W) 1 A n (ints l)) := fun W2 hb => hslW.reads.below hb
  have HB1 : Hid (Below W.heap.size W (W.alloc (.cells #[] 3)).drew) := (Chg.ofBelow ((Below.refl _ _).alloc (Nat.le_refl _) _) (fun _ => False)).drew.toBelow
  have HB2 : Hid (Below W.heap.size W ((W.alloc (.cells #[] 3)).alloc (.cells #[.int .i64 s.n] 3)).drew) := (Chg.ofBelow (((Below.refl _ _).alloc (Nat.le_refl _) _).alloc (by simp) _) (fun _ => False)).drew.toBelow
  have HB3 : Hid (Below W.heap.size W ((W.alloc (.cells #[.int .i64 s.n] 3)).alloc (.cells #[] 3)).drew) := (Chg.ofBelow (((Below.refl _ _).alloc (Nat.le_refl _) _).alloc (by simp) _) (fun _ => False)).drew.toBelow
  have HO0 : Hid ((W.alloc (.cells #[] 3)).drew.ownsRow W.heap.size 3 1 (.slice (some ⟨W.heap.size, 0, none⟩) 0 0) 0 []) := World.ownsRow_lit W #[] 0 (Nat.le_refl _) (by simp [maxLen]) rfl
  have HO2' : Hid (((W.alloc (.cells #[] 3)).alloc (.cells #[.int .i64 s.n] 3)).drew.ownsRow W.heap.size 3 1 (.slice (some ⟨W.heap.size, 0, none⟩) 0 0) 0 []) := HO0.out.alloc (.cells #[.int .i64 s.n] 3)
  have HO3' : Hid (((W.alloc (.cells #[.int .i64 s.n] 3)).alloc (.cells #[] 3)).drew.ownsRow W.heap.size 3 1 (.slice (some ⟨W.heap.size + 1, 0, none⟩) 0 0) 0 []) := by
    have := World.ownsRow_lit (base := W.heap.size) (e := 3) (size := 1) (W.alloc (.cells #[.int .i64 s.n] 3)) #[] 0 (by simp) (by simp [maxLen]) rfl
    rw [World.size_alloc] at this
    exact this
  have HN2 : Hid (Blk ((W.alloc (.cells #[] 3)).alloc (.cells #[.int .i64 s.n] 3)).drew (W.heap.size + 1) 3 #[.int .i64 s.n]) := Blk.new_ _ _ _ (by simp)
  have HN3 : Hid (Blk ((W.alloc (.cells #[.int .i64 s.n] 3)).alloc (.cells #[] 3)).drew W.heap.size 3 #[.int .i64 s.n]) := (Blk.new _ _ _).alloc _
  clear hslW
  go_region_law
    ((first
      | (refine step_appendR (by rfl) (.tmp 23) (.tmp 24) (by rfl) W.heap.size _ 0 [] (by rfl) HO0.out A n c l (Row3 W) (by rfl) (HRD.out _ (by first | exact HB1.out | exact HB2.out | exact HB3.out)) H.out.nil_ (by omega) (by simp; try omega) ?_
         intro v1 w1 hO1 hC1 _
         have HO1 := hide hO1
         have HC1 := hide hC1
         have hk1 : w1.cell? ⟨w.heap.size, 4, none⟩ = some (.int .i64 s.n) := (hC1.cell (p := ⟨w.heap.size, 4, none⟩) (by have := HWS.out; simp; omega) (fun e => by have := HWS.out; simp [Value.ownBlock] at e; omega)).trans (HSN.out _ (by first | exact HB1.out | exact HB2.out | exact HB3.out))
         have hs1 : W.heap.size ≤ w1.heap.size := Nat.le_trans (by simp; try omega) hC1.size
         clear hO1 hC1)
      | (refine step_appendR (by rfl) (.tmp 23) (.tmp 24) (by rfl) W.heap.size _ 0 [] (by rfl) HO2'.out A n c l (Row3 W) (by rfl) (HRD.out _ (by first | exact HB1.out | exact HB2.out | exact HB3.out)) H.out.nil_ (by omega) (by simp; try omega) ?_
         intro v1 w1 hO1 hC1 _
         have HO1 := hide hO1
         have HC1 := hide hC1
         have hk1 : w1.cell? ⟨w.heap.size, 4, none⟩ = some (.int .i64 s.n) := (hC1.cell (p := ⟨w.heap.size, 4, none⟩) (by have := HWS.out; simp; omega) (fun e => by have := HWS.out; simp [Value.ownBlock] at e; omega)).trans (HSN.out _ (by first | exact HB1.out | exact HB2.out | exact HB3.out))
         have hs1 : W.heap.size ≤ w1.heap.size := Nat.le_trans (by simp; try omega) hC1.size
         clear hO1 hC1)
      | (refine step_appendR (by rfl) (.tmp 23) (.tmp 24) (by rfl) W.heap.size _ 0 [] (by rfl) HO3'.out A n c l (Row3 W) (by rfl) (HRD.out _ (by first | exact HB1.out | exact HB2.out | exact HB3.out)) H.out.nil_ (by omega) (by simp; try omega) ?_
         intro v1 w1 hO1 hC1 _
         have HO1 := hide hO1
         have HC1 := hide hC1
         have hk1 : w1.cell? ⟨w.heap.size, 4, none⟩ = some (.int .i64 s.n) := (hC1.cell (p := ⟨w.heap.size, 4, none⟩) (by have := HWS.out; simp; omega) (fun e => by have := HWS.out; simp [Value.ownBlock] at e; omega)).trans (HSN.out _ (by first | exact HB1.out | exact HB2.out | exact HB3.out))
         have hs1 : W.heap.size ≤ w1.heap.size := Nat.le_trans (by simp; try omega) hC1.size
         clear hO1 hC1)
      | (refine step_appendR (by rfl) (.tmp 25) (.tmp 28) (by rfl) W.heap.size v1 (0 + n) _ (by rfl) (HO1.out.alloc _) (some ⟨w1.heap.size, 0, none⟩) 1 1 [s.n] (fun _ => True) (by rfl) (reads_new _ _) (fun h => by cases h) (by omega) (by first | exact hs1 | (simp; omega)) ?_
         intro v2 w2 hO2 hC2 _
         have HO2 := hide hO2
         have hz := HZ0.out.chg ((Chg.ofBelow HB1.out (fun i => W.heap.size ≤ i)).trans (((HC1.out.mono (T := fun i => W.heap.size ≤ i) (fun i _ e => by simp [Value.ownBlock] at e; omega)).alloc _).trans (hC2.mono (T := fun i => W.heap.size ≤ i) (fun i _ e => (HO1.out.lt i e).1)) (fun _ _ h => h)) (fun _ _ h => h)) (fun h => by have := HWS.out; omega)
         have k0 : w2.cell? ⟨w.heap.size + 1, 0, none⟩ = some (.int .i64 0) := by rw [hz.cell]; rfl
         have k1 : w2.cell? ⟨w.heap.size + 1, 1, none⟩ = some (.bool false) := by rw [hz.cell]; rfl
         have k2 : w2.cell? ⟨w.heap.size + 1, 2, none⟩ = some (.slice none 0 0) := by rw [hz.cell]; rfl
         have k3 : w2.cell? ⟨w.heap.size + 1, 3, none⟩ = some (.bool false) := by rw [hz.cell]; rfl
         have f0 := hz.frozen 0
         have f1 := hz.frozen 1
         have f2 := hz.frozen 2
         have f3 := hz.frozen 3
         have HZ2 := hide hz
         have HC2 : Hid (Chg (fun i => W.heap.size ≤ i) W w2) := (Chg.ofBelow HB1.out (fun i => W.heap.size ≤ i)).trans (((HC1.out.mono (T := fun i => W.heap.size ≤ i) (fun i _ e => by simp [Value.ownBlock] at e; omega)).alloc _).trans (hC2.mono (T := fun i => W.heap.size ≤ i) (fun i _ e => (HO1.out.lt i e).1)) (fun _ _ h => h)) (fun _ _ h => h)
         clear hO2 hC2 hz)
      | (refine step_appendR (by rfl) (.tmp 25) (.tmp 28) (by rfl) W.heap.size v1 (0 + n) _ (by rfl) (HO1.out) (some ⟨W.heap.size + 1, 0, none⟩) 1 1 [s.n] (fun _ => True) (by rfl) (reads_blk (HN2.out.chg HC1.out (fun e => by simp [Value.ownBlock] at e))) (fun h => by cases h) (by omega) (by first | exact hs1 | (simp; omega)) ?_
         intro v2 w2 hO2 hC2 _
         have HO2 := hide hO2
         have hz := HZ0.out.chg ((Chg.ofBelow HB2.out (fun i => W.heap.size ≤ i)).trans ((HC1.out.mono (T := fun i => W.heap.size ≤ i) (fun i _ e => by simp [Value.ownBlock] at e; omega)).trans (hC2.mono (T := fun i => W.heap.size ≤ i) (fun i _ e => (HO1.out.lt i e).1)) (fun _ _ h => h)) (fun _ _ h => h)) (fun h => by have := HWS.out; omega)
         have k0 : w2.cell? ⟨w.heap.size + 1, 0, none⟩ = some (.int .i64 0) := by rw [hz.cell]; rfl
         have k1 : w2.cell? ⟨w.heap.size + 1, 1, none⟩ = some (.bool false) := by rw [hz.cell]; rfl
         have k2 : w2.cell? ⟨w.heap.size + 1, 2, none⟩ = some (.slice none 0 0) := by rw [hz.cell]; rfl
         have k3 : w2.cell? ⟨w.heap.size + 1, 3, none⟩ = some (.bool false) := by rw [hz.cell]; rfl
         have f0 := hz.frozen 0
         have f1 := hz.frozen 1
         have f2 := hz.frozen 2
         have f3 := hz.frozen 3
         have HZ2 := hide hz
         have HC2 : Hid (Chg (fun i => W.heap.size ≤ i) W w2) := (Chg.ofBelow HB2.out (fun i => W.heap.size ≤ i)).trans ((HC1.out.mono (T := fun i => W.heap.size ≤ i) (fun i _ e => by simp [Value.ownBlock] at e; omega)).trans (hC2.mono (T := fun i => W.heap.size ≤ i) (fun i _ e => (HO1.out.lt i e).1)) (fun _ _ h => h)) (fun _ _ h => h)
         clear hO2 hC2 hz)
      | (refine step_appendR (by rfl) (.tmp 25) (.tmp 28) (by rfl) W.heap.size v1 (0 + n) _ (by rfl) (HO1.out) (some ⟨W.heap.size, 0, none⟩) 1 1 [s.n] (fun _ => True) (by rfl) (reads_blk (HN3.out.chg HC1.out (fun e => by simp [Value.ownBlock] at e))) (fun h => by cases h) (by omega) (by first | exact hs1 | (simp; omega)) ?_
         intro v2 w2 hO2 hC2 _
         have HO2 := hide hO2
         have hz := HZ0.out.chg ((Chg.ofBelow HB3.out (fun i => W.heap.size ≤ i)).trans ((HC1.out.mono (T := fun i => W.heap.size ≤ i) (fun i _ e => by simp [Value.ownBlock] at e; omega)).trans (hC2.mono (T := fun i => W.heap.size ≤ i) (fun i _ e => (HO1.out.lt i e).1)) (fun _ _ h => h)) (fun _ _ h => h)) (fun h => by have := HWS.out; omega)
         have k0 : w2.cell? ⟨w.heap.size + 1, 0, none⟩ = some (.int .i64 0) := by rw [hz.cell]; rfl
         have k1 : w2.cell? ⟨w.heap.size + 1, 1, none⟩ = some (.bool false) := by rw [hz.cell]; rfl
         have k2 : w2.cell? ⟨w.heap.size + 1, 2, none⟩ = some (.slice none 0 0) := by rw [hz.cell]; rfl
         have k3 : w2.cell? ⟨w.heap.size + 1, 3, none⟩ = some (.bool false) := by rw [hz.cell]; rfl
         have f0 := hz.frozen 0
         have f1 := hz.frozen 1
         have f2 := hz.frozen 2
         have f3 := hz.frozen 3
         have HZ2 := hide hz
         have HC2 : Hid (Chg (fun i => W.heap.size ≤ i) W w2) := (Chg.ofBelow HB3.out (fun i => W.heap.size ≤ i)).trans ((HC1.out.mono (T := fun i => W.heap.size ≤ i) (fun i _ e => by simp [Value.ownBlock] at e; omega)).trans (hC2.mono (T := fun i => W.heap.size ≤ i) (fun i _ e => (HO1.out.lt i e).1)) (fun _ _ h => h)) (fun _ _ h => h)
         clear hO2 hC2 hz)
      | fail))
  all_goals
    have hfin : w2.ownsRow W.heap.size 3 1 v2 (n + 1) (ints (l ++ [s.n])) := by
      have h1 := HO2.out
      rw [List.nil_append, ← List.map_append, show 0 + n + 1 = n + 1 by omega] at h1
      exact h1
    obtain ⟨RA, rc, rfl, _⟩ := own_reads hfin
    have hslF := SliceIs.of_own hfin
    have hbl2 : Below w.heap.size w w2 := HBW.out.trans (HC2.out.below (Nat.le_refl _) (fun i hi => hi) |>.mono HBW.out.size)
    have HSF := hide hslF
    have HBL2 := hide hbl2
    clear hslF hbl2 hfin HO2 HC2 HO1 HC1
    go_wp2
    have hbF := (((HZ2.out.set_ 0 (.int .i64 0)).set_ 1 (.bool false)).set_ 2 (.slice none 0 0)).set_ 3 (.bool false)
    have hcF := set4_chg w2 (w.heap.size + 1) (.int .i64 0) (.bool false) (.slice none 0 0) (.bool false)
    generalize (((w2.setCell ⟨w.heap.size + 1, 0, none⟩ (.int .i64 0)).setCell ⟨w.heap.size + 1, 1, none⟩ (.bool false)).setCell ⟨w.heap.size + 1, 2, none⟩ (.slice none 0 0)).setCell ⟨w.heap.size + 1, 3, none⟩ (.bool false) = wF at *
    have j0 : wF.cell? ⟨w.heap.size + 1, 0, none⟩ = some (.int .i64 0) := by rw [hbF.cell]; rfl
    have j1 : wF.cell? ⟨w.heap.size + 1, 1, none⟩ = some (.bool false) := by rw [hbF.cell]; rfl
    have j2 : wF.cell? ⟨w.heap.size + 1, 2, none⟩ = some (.slice none 0 0) := by rw [hbF.cell]; rfl
    have j3 : wF.cell? ⟨w.heap.size + 1, 3, none⟩ = some (.bool false) := by rw [hbF.cell]; rfl
    have hblF : Below w.heap.size w wF := HBL2.out.trans (hcF.below HBL2.out.size (fun i hi => by omega))
    refine bodyPost_ret (v := .tuple #[.slice RA (n + 1) rc, .agg #[.int .i64 0, .bool false, .slice none 0 0, .bool false], .bool true]) ?_ rfl ?_
    · simp [results, Try.f16, go_sem, j0, j1, j2, j3]
    · have hq : specQ 0 l s = (l ++ [s.n], zeroAns, true) := by simp [specQ, hw]
      rw [hq]
      have hlen1 : (l ++ [s.n]).length = n + 1 := by rw [List.length_append, hln]; rfl
      unfold SqOut
      simp only [hlen1]
      exact ⟨RA, rc, rfl, HSF.out.row hcF (fun i cs hb e => hb.ne_ HZ2.out (by decide) e), hblF⟩

set_option maxHeartbeats 1000000 in
set_option maxRecDepth 100000 in
theorem squeue0_3 (A : Option Addr) (n c : Nat) (l : List Int) (s : StepD) (LA : Option Addr) (lc : Nat) (w : World) (h : SliceIs w (Row3 w) A n c l) (_hn : n ≤ 549755813888) (hw : s.what = 3) :
    Calls Try.prog 16 #[.int .i64 0, .slice A n c, .agg (s.cells (.slice LA s.list.length lc))] w (SqOut (specQ 0 l s) w) := by
  have H := hide h
  have hst := start34 w (s.cells (.slice LA s.list.length lc)) #[.int .i64 n, .bool false, .slice none 0 0, .bool false]
  have hln := h.len
  have HST := hide hst
  clear h hst
  unfold StepD.cells at *
  rw [hw] at HST ⊢
  go_enter Try.func16, Try.ntmps16
  go_wp2
  refine bodyPost_ret (v := .tuple #[.slice A n c, .agg #[.int .i64 n, .bool false, .slice none 0 0, .bool false], .bool true]) ?_ rfl ?_
  · simp [results, Try.f16, go_sem]
  · have hq : specQ 0 l s = (l, ⟨l.length, false, [], false⟩, true) := by simp [specQ, hw]
    rw [hq]
    exact ⟨A, c, by simp [AnsD.cells, hln], sq_same H.out HST.out.1 hln, HST.out.1⟩

set_option maxHeartbeats 1000000 in
set_option maxRecDepth 100000 in
theorem squeue0_e (A : Option Addr) (n c : Nat) (l : List Int) (s : StepD) (LA : Option Addr) (lc : Nat) (w : World) (h : SliceIs w (Row3 w) A n c l) (_hn : n ≤ 549755813888) (h0 : s.what ≠ 0) (h1 : s.what ≠ 1) (h2 : s.what ≠ 2) (h3 : s.what ≠ 3) :
    Calls Try.prog 16 #[.int .i64 0, .slice A n c, .agg (s.cells (.slice LA s.list.length lc))] w (SqOut (specQ 0 l s) w) := by
  have H := hide h
  have hq : specQ 0 l s = (l, zeroAns, decide (4 ≤ s.what ∧ s.what ≤ 6)) := by simp [specQ, h0, h1, h2, h3]
  have HQ := hide hq
  clear hq
  have e0 : (s.what == 0) = false := beq_eq_false_iff_ne.2 h0
  have e1 : (s.what == 1) = false := beq_eq_false_iff_ne.2 h1
  have e2 : (s.what == 2) = false := beq_eq_false_iff_ne.2 h2
  have e3 : (s.what == 3) = false := beq_eq_false_iff_ne.2 h3
  clear h0 h1 h2 h3
  have hst := start34 w (s.cells (.slice LA s.list.length lc)) #[.int .i64 0, .bool false, .slice none 0 0, .bool false]
  have hln := h.len
  have HST := hide hst
  clear h hst
  unfold StepD.cells at *
  go_enter Try.func16, Try.ntmps16
  have hfin : ∀ b : Bool, decide (4 ≤ s.what ∧ s.what ≤ 6) = b → Hid (SqOut (specQ 0 l s) w (.returned (.tuple #[.slice A n c, .agg #[.int .i64 0, .bool false, .slice none 0 0, .bool false], .bool b])) ((w.alloc (.cells #[.int .i64 s.what, .int .i64 s.which, .int .i64 s.index, .int .i64 s.bit, .int .i64 s.n, .int .i64 s.key, .int .i64 s.value, .slice LA s.list.length lc] 34)).alloc (.cells #[.int .i64 0, .bool false, .slice none 0 0, .bool false] 31)).drew) := by
    intro b hb
    have hbd : Below w.heap.size w ((w.alloc (.cells #[.int .i64 s.what, .int .i64 s.which, .int .i64 s.index, .int .i64 s.bit, .int .i64 s.n, .int .i64 s.key, .int .i64 s.value, .slice LA s.list.length lc] 34)).alloc (.cells #[.int .i64 0, .bool false, .slice none 0 0, .bool false] 31)).drew := (Chg.ofBelow HST.out.1 (fun _ => False)).drew.toBelow
    rw [HQ.out, hb]
    exact ⟨A, c, by simp [AnsD.cells, zeroAns, hln], sq_same H.out hbd hln, hbd⟩
  by_cases h4 : 4 ≤ s.what
  · by_cases h6 : s.what ≤ 6
    · have HF := hfin true (by simp [h4, h6])
      clear hfin
      go_wp2
      go_region
      go_wp2
      refine bodyPost_ret (v := .tuple #[.slice A n c, .agg #[.int .i64 0, .bool false, .slice none 0 0, .bool false], .bool true]) ?_ rfl HF.out
      simp [results, Try.f16, go_sem]
    · have HF := hfin false (by simp [h6])
      clear hfin
      go_wp2
      go_region
      go_wp2
      refine bodyPost_ret (v := .tuple #[.slice A n c, .agg #[.int .i64 0, .bool false, .slice none 0 0, .bool false], .bool false]) ?_ rfl HF.out
      simp [results, Try.f16, go_sem]
      try omega
  · have HF := hfin false (by simp [h4])
    have h4' : decide (4 ≤ s.what) = false := decide_eq_false h4
    clear hfin h4
    go_wp2
    go_region
    go_wp2
    refine bodyPost_ret (v := .tuple #[.slice A n c, .agg #[.int .i64 0, .bool false, .slice none 0 0, .bool false], .bool false]) ?_ rfl HF.out
    simp [results, Try.f16, go_sem]

set_option maxHeartbeats 1000000 in
set_option maxRecDepth 100000 in
theorem squeue0_1 (A : Option Addr) (n c : Nat) (l : List Int) (s : StepD) (LA : Option Addr) (lc : Nat) (w : World) (h : SliceIs w (Row3 w) A n c l) (_hn : n ≤ 549755813888) (hw : s.what = 1) :
    Calls Try.prog 16 #[.int .i64 0, .slice A n c, .agg (s.cells (.slice LA s.list.length lc))] w (SqOut (specQ 0 l s) w) := by
  have H := hide h
  have hst := start34 w (s.cells (.slice LA s.list.length lc)) #[.int .i64 0, .bool false, .slice none 0 0, .bool false]
  have hln := h.len
  have HST := hide hst
  clear h hst
  unfold StepD.cells at *
  rw [hw] at HST ⊢
  go_enter Try.func16, Try.ntmps16
  go_wp2_with fail
  generalize (w.alloc (.cells #[.int .i64 1, .int .i64 s.which, .int .i64 s.index, .int .i64 s.bit, .int .i64 s.n, .int .i64 s.key, .int .i64 s.value, .slice LA s.list.length lc] 34)).alloc (.cells #[.int .i64 0, .bool false, .slice none 0 0, .bool false] 31) = W at *
  refine (popped_any A n c ((n : Int) - 1) (l.length - 1) l W (H.out.rowBelow HST.out.1) ?_ _hn).mono ?_
  · rcases Nat.eq_zero_or_pos n with h0 | h0
    · exact Or.inl (List.eq_nil_of_length_eq_zero (by omega))
    · exact Or.inr ⟨by omega, by omega⟩
  rintro e w1 ⟨A', c', rfl, hsl, hbl⟩
  have hz := HST.out.2.1.below hbl HST.out.2.1.lt
  have HSL := hide hsl
  have HBL : Hid (Below w.heap.size w w1) := HST.out.1.trans (hbl.mono HST.out.1.size)
  have HPN : Hid ((atAns l (l.length - 1)).panicked = false) := atAns_pan l _
  clear hsl hbl
  generalize hat : atAns l (l.length - 1) = an at *
  have HAT := hide hat
  generalize hm : (l.eraseIdx (l.length - 1)).length = m at *
  have HM := hide hm
  clear hat hm
  have hsz1 : w.heap.size + 1 < w1.heap.size := hz.lt
  have k0 : w1.cell? ⟨w.heap.size + 1, 0, none⟩ = some (.int .i64 0) := by rw [hz.cell]; rfl
  have k1 : w1.cell? ⟨w.heap.size + 1, 1, none⟩ = some (.bool false) := by rw [hz.cell]; rfl
  have k2 : w1.cell? ⟨w.heap.size + 1, 2, none⟩ = some (.slice none 0 0) := by rw [hz.cell]; rfl
  have k3 : w1.cell? ⟨w.heap.size + 1, 3, none⟩ = some (.bool false) := by rw [hz.cell]; rfl
  have f0 := hz.frozen 0
  have f1 := hz.frozen 1
  have f2 := hz.frozen 2
  have f3 := hz.frozen 3
  have d0 : ∀ o, (w1.alloc o).cell? ⟨w.heap.size + 1, 0, none⟩ = some (.int .i64 0) := fun o => by rw [World.cell?_alloc_lt _ _ _ hsz1]; exact k0
  have d1 : ∀ o, (w1.alloc o).cell? ⟨w.heap.size + 1, 1, none⟩ = some (.bool false) := fun o => by rw [World.cell?_alloc_lt _ _ _ hsz1]; exact k1
  have d2 : ∀ o, (w1.alloc o).cell? ⟨w.heap.size + 1, 2, none⟩ = some (.slice none 0 0) := fun o => by rw [World.cell?_alloc_lt _ _ _ hsz1]; exact k2
  have d3 : ∀ o, (w1.alloc o).cell? ⟨w.heap.size + 1, 3, none⟩ = some (.bool false) := fun o => by rw [World.cell?_alloc_lt _ _ _ hsz1]; exact k3
  have hpn := HPN.out
  have HZ := hide hz
  clear hz
  unfold AnsD.cells
  go_wp2
  go_region
  go_wp2
  have hbF : Blk (((((w1.setCell ⟨w.heap.size + 1, 0, none⟩ (.int .i64 an.n)).setCell ⟨w.heap.size + 1, 1, none⟩ (.bool an.ok)).setCell ⟨w.heap.size + 1, 2, none⟩ (.slice none 0 0)).setCell ⟨w.heap.size + 1, 3, none⟩ (.bool false)).alloc (.cells #[.int .i64 an.n, .bool an.ok, .slice none 0 0, .bool false] 31)).drew (w.heap.size + 1) 31 #[.int .i64 an.n, .bool an.ok, .slice none 0 0, .bool false] := ((((HZ.out.set_ 0 _).set_ 1 _).set_ 2 _).set_ 3 _).alloc _
  have hcF : Chg (· = w.heap.size + 1) w1 (((((w1.setCell ⟨w.heap.size + 1, 0, none⟩ (.int .i64 an.n)).setCell ⟨w.heap.size + 1, 1, none⟩ (.bool an.ok)).setCell ⟨w.heap.size + 1, 2, none⟩ (.slice none 0 0)).setCell ⟨w.heap.size + 1, 3, none⟩ (.bool false)).alloc (.cells #[.int .i64 an.n, .bool an.ok, .slice none 0 0, .bool false] 31)).drew := ((set4_chg w1 (w.heap.size + 1) _ _ _ _).alloc _).drew
  generalize (((((w1.setCell ⟨w.heap.size + 1, 0, none⟩ (.int .i64 an.n)).setCell ⟨w.heap.size + 1, 1, none⟩ (.bool an.ok)).setCell ⟨w.heap.size + 1, 2, none⟩ (.slice none 0 0)).setCell ⟨w.heap.size + 1, 3, none⟩ (.bool false)).alloc (.cells #[.int .i64 an.n, .bool an.ok, .slice none 0 0, .bool false] 31)).drew = wF at *
  have j0 : wF.cell? ⟨w.heap.size + 1, 0, none⟩ = some (.int .i64 an.n) := by rw [hbF.cell]; rfl
  have j1 : wF.cell? ⟨w.heap.size + 1, 1, none⟩ = some (.bool an.ok) := by rw [hbF.cell]; rfl
  have j2 : wF.cell? ⟨w.heap.size + 1, 2, none⟩ = some (.slice none 0 0) := by rw [hbF.cell]; rfl
  have j3 : wF.cell? ⟨w.heap.size + 1, 3, none⟩ = some (.bool false) := by rw [hbF.cell]; rfl
  have hblF : Below w.heap.size w wF := HBL.out.trans (hcF.below (by omega) (fun i hi => by omega))
  refine bodyPost_ret (v := .tuple #[.slice A' m c', .agg #[.int .i64 an.n, .bool an.ok, .slice none 0 0, .bool false], .bool true]) ?_ rfl ?_
  · simp [results, Try.f16, go_sem, j0, j1, j2, j3]
  · have hq : specQ 0 l s = (l.eraseIdx (l.length - 1), an, true) := by rw [← HAT.out]; simp [specQ, hw]
    rw [hq]
    have hac : an.cells (.slice none 0 0) = #[.int .i64 an.n, .bool an.ok, .slice none 0 0, .bool false] := by unfold AnsD.cells; rw [HPN.out]
    unfold SqOut
    simp only [hac]
    rw [HM.out]
    exact ⟨A', c', rfl, HSL.out.row hcF (fun i cs hb e => hb.ne_ HZ.out (by decide) e), hblF⟩

set_option maxHeartbeats 1000000 in
set_option maxRecDepth 100000 in
theorem squeue0_2 (A : Option Addr) (n c : Nat) (l : List Int) (s : StepD) (LA : Option Addr) (lc : Nat) (w : World) (h : SliceIs w (Row3 w) A n c l) (_hn : n ≤ 549755813888) (hw : s.what = 2) :
    Calls Try.prog 16 #[.int .i64 0, .slice A n c, .agg (s.cells (.slice LA s.list.length lc))] w (SqOut (specQ 0 l s) w) := by
  have H := hide h
  have hst := start34 w (s.cells (.slice LA s.list.length lc)) #[.int .i64 0, .bool false, .slice none 0 0, .bool false]
  have hln := h.len
  have HST := hide hst
  clear h hst
  unfold StepD.cells at *
  rw [hw] at HST ⊢
  go_enter Try.func16, Try.ntmps16
  go_wp2_with fail
  generalize (w.alloc (.cells #[.int .i64 2, .int .i64 s.which, .int .i64 s.index, .int .i64 s.bit, .int .i64 s.n, .int .i64 s.key, .int .i64 s.value, .slice LA s.list.length lc] 34)).alloc (.cells #[.int .i64 0, .bool false, .slice none 0 0, .bool false] 31) = W at *
  refine (popped_any A n c ((n : Int) - 1) (l.length - 1) l W (H.out.rowBelow HST.out.1) ?_ _hn).mono ?_
  · rcases Nat.eq_zero_or_pos n with h0 | h0
    · exact Or.inl (List.eq_nil_of_length_eq_zero (by omega))
    · exact Or.inr ⟨by omega, by omega⟩
  rintro e w1 ⟨A', c', rfl, hsl, hbl⟩
  have hz := HST.out.2.1.below hbl HST.out.2.1.lt
  have HSL := hide hsl
  have HBL : Hid (Below w.heap.size w w1) := HST.out.1.trans (hbl.mono HST.out.1.size)
  have HPN : Hid ((atAns l (l.length - 1)).panicked = false) := atAns_pan l _
  clear hsl hbl
  generalize hat : atAns l (l.length - 1) = an at *
  have HAT := hide hat
  generalize hm : (l.eraseIdx (l.length - 1)).length = m at *
  have HM := hide hm
  clear hat hm
  have hsz1 : w.heap.size + 1 < w1.heap.size := hz.lt
  have k0 : w1.cell? ⟨w.heap.size + 1, 0, none⟩ = some (.int .i64 0) := by rw [hz.cell]; rfl
  have k1 : w1.cell? ⟨w.heap.size + 1, 1, none⟩ = some (.bool false) := by rw [hz.cell]; rfl
  have k2 : w1.cell? ⟨w.heap.size + 1, 2, none⟩ = some (.slice none 0 0) := by rw [hz.cell]; rfl
  have k3 : w1.cell? ⟨w.heap.size + 1, 3, none⟩ = some (.bool false) := by rw [hz.cell]; rfl
  have f0 := hz.frozen 0
  have f1 := hz.frozen 1
  have f2 := hz.frozen 2
  have f3 := hz.frozen 3
  have d0 : ∀ o, (w1.alloc o).cell? ⟨w.heap.size + 1, 0, none⟩ = some (.int .i64 0) := fun o => by rw [World.cell?_alloc_lt _ _ _ hsz1]; exact k0
  have d1 : ∀ o, (w1.alloc o).cell? ⟨w.heap.size + 1, 1, none⟩ = some (.bool false) := fun o => by rw [World.cell?_alloc_lt _ _ _ hsz1]; exact k1
  have d2 : ∀ o, (w1.alloc o).cell? ⟨w.heap.size + 1, 2, none⟩ = some (.slice none 0 0) := fun o => by rw [World.cell?_alloc_lt _ _ _ hsz1]; exact k2
  have d3 : ∀ o, (w1.alloc o).cell? ⟨w.heap.size + 1, 3, none⟩ = some (.bool false) := fun o => by rw [World.cell?_alloc_lt _ _ _ hsz1]; exact k3
  have hpn := HPN.out
  have HZ := hide hz
  clear hz
  unfold AnsD.cells
  go_wp2
  go_region
  go_wp2
  have hbF : Blk (((((w1.setCell ⟨w.heap.size + 1, 0, none⟩ (.int .i64 an.n)).setCell ⟨w.heap.size + 1, 1, none⟩ (.bool an.ok)).setCell ⟨w.heap.size + 1, 2, none⟩ (.slice none 0 0)).setCell ⟨w.heap.size + 1, 3, none⟩ (.bool false)).alloc (.cells #[.int .i64 an.n, .bool an.ok, .slice none 0 0, .bool false] 31)).drew (w.heap.size + 1) 31 #[.int .i64 an.n, .bool an.ok, .slice none 0 0, .bool false] := ((((HZ.out.set_ 0 _).set_ 1 _).set_ 2 _).set_ 3 _).alloc _
  have hcF : Chg (· = w.heap.size + 1) w1 (((((w1.setCell ⟨w.heap.size + 1, 0, none⟩ (.int .i64 an.n)).setCell ⟨w.heap.size + 1, 1, none⟩ (.bool an.ok)).setCell ⟨w.heap.size + 1, 2, none⟩ (.slice none 0 0)).setCell ⟨w.heap.size + 1, 3, none⟩ (.bool false)).alloc (.cells #[.int .i64 an.n, .bool an.ok, .slice none 0 0, .bool false] 31)).drew := ((set4_chg w1 (w.heap.size + 1) _ _ _ _).alloc _).drew
  generalize (((((w1.setCell ⟨w.heap.size + 1, 0, none⟩ (.int .i64 an.n)).setCell ⟨w.heap.size + 1, 1, none⟩ (.bool an.ok)).setCell ⟨w.heap.size + 1, 2, none⟩ (.slice none 0 0)).setCell ⟨w.heap.size + 1, 3, none⟩ (.bool false)).alloc (.cells #[.int .i64 an.n, .bool an.ok, .slice none 0 0, .bool false] 31)).drew = wF at *
  have j0 : wF.cell? ⟨w.heap.size + 1, 0, none⟩ = some (.int .i64 an.n) := by rw [hbF.cell]; rfl
  have j1 : wF.cell? ⟨w.heap.size + 1, 1, none⟩ = some (.bool an.ok) := by rw [hbF.cell]; rfl
  have j2 : wF.cell? ⟨w.heap.size + 1, 2, none⟩ = some (.slice none 0 0) := by rw [hbF.cell]; rfl
  have j3 : wF.cell? ⟨w.heap.size + 1, 3, none⟩ = some (.bool false) := by rw [hbF.cell]; rfl
  have hblF : Below w.heap.size w wF := HBL.out.trans (hcF.below (by omega) (fun i hi => by omega))
  refine bodyPost_ret (v := .tuple #[.slice A n c, .agg #[.int .i64 an.n, .bool an.ok, .slice none 0 0, .bool false], .bool true]) ?_ rfl ?_
  · simp [results, Try.f16, go_sem, j0, j1, j2, j3]
  · have hq : specQ 0 l s = (l, an, true) := by rw [← HAT.out]; simp [specQ, hw]
    rw [hq]
    have hac : an.cells (.slice none 0 0) = #[.int .i64 an.n, .bool an.ok, .slice none 0 0, .bool false] := by unfold AnsD.cells; rw [HPN.out]
    unfold SqOut
    simp only [hac]
    rw [hln]
    exact ⟨A, c, rfl, H.out.rowBelow hblF, hblF⟩

set_option maxHeartbeats 1000000 in
set_option maxRecDepth 100000 in
theorem squeue1_0 (A : Option Addr) (n c : Nat) (l : List Int) (s : StepD) (LA : Option Addr) (lc : Nat) (w : World) (h : SliceIs w (Row3 w) A n c l) (_hn : n ≤ 549755813888) (hw : s.what = 0) :
    Calls Try.prog 16 #[.int .i64 1, .slice A n c, .agg (s.cells (.slice LA s.list.length lc))] w (SqOut (specQ 1 l s) w) := by
  have H := hide h
  have hst := start34 w (s.cells (.slice LA s.list.length lc)) #[.int .i64 0, .bool false, .slice none 0 0, .bool false]
  have hln := h.len
  have HST := hide hst
  clear h hst
  unfold StepD.cells at *
  rw [hw] at HST ⊢
  go_enter Try.func16, Try.ntmps16
  have hsn : ((w.alloc (.cells #[.int .i64 0, .int .i64 s.which, .int .i64 s.index, .int .i64 s.bit, .int .i64 s.n, .int .i64 s.key, .int .i64 s.value, .slice LA s.list.length lc] 34)).alloc (.cells #[.int .i64 0, .bool false, .slice none 0 0, .bool false] 31)).cell? ⟨w.heap.size, 4, none⟩ = some (.int .i64 s.n) := by
    have hb : Blk ((w.alloc (.cells #[.int .i64 0, .int .i64 s.which, .int .i64 s.index, .int .i64 s.bit, .int .i64 s.n, .int .i64 s.key, .int .i64 s.value, .slice LA s.list.length lc] 34)).alloc (.cells #[.int .i64 0, .bool false, .slice none 0 0, .bool false] 31)) w.heap.size 34 #[.int .i64 0, .int .i64 s.which, .int .i64 s.index, .int .i64 s.bit, .int .i64 s.n, .int .i64 s.key, .int .i64 s.value, .slice LA s.list.length lc] := (Blk.new _ _ _).alloc _
    rw [hb.cell]; rfl
  go_wp2
  generalize (w.alloc (.cells #[.int .i64 0, .int .i64 s.which, .int .i64 s.index, .int .i64 s.bit, .int .i64 s.n, .int .i64 s.key, .int .i64 s.value, .slice LA s.list.length lc] 34)).alloc (.cells #[.int .i64 0, .bool false, .slice none 0 0, .bool false] 31) = W at *
  have HZ0 : Hid (Blk W (w.heap.size + 1) 31 #[.int .i64 0, .bool false, .slice none 0 0, .bool false]) := HST.out.2.1
  have HWS : Hid (W.heap.size = w.heap.size + 2) := HST.out.2.2
  have HBW : Hid (Below w.heap.size w W) := HST.out.1
  have HSN : Hid (∀ W2 : World, Below W.heap.size W W2 → W2.cell? ⟨w.heap.size, 4, none⟩ = some (.int .i64 s.n)) := fun W2 hb => (hb.cell (p := ⟨w.heap.size, 4, none⟩) (by have := HWS.out; show w.heap.size < _; omega)).trans hsn
  have hsnA : ∀ o, (W.alloc o).cell? ⟨w.heap.size, 4, none⟩ = some (.int .i64 s.n) := fun o => HSN.out _ ((Below.refl _ _).alloc (Nat.le_refl _) _)
  have hslW := H.out.rowBelow HBW.out
  have HRD : Hid (∀ W2 : World, Below W.heap.size W W2 → Reads W2 (Row3 W) 1 A n (ints l)) := fun W2 hb => hslW.reads.below hb
  have HB1 : Hid (Below W.heap.size W (W.alloc (.cells #[] 3)).drew) := (Chg.ofBelow ((Below.refl _ _).alloc (Nat.le_refl _) _) (fun _ => False)).drew.toBelow
  have HB2 : Hid (Below W.heap.size W ((W.alloc (.cells #[] 3)).alloc (.cells #[.int .i64 s.n] 3)).drew) := (Chg.ofBelow (((Below.refl _ _).alloc (Nat.le_refl _) _).alloc (by simp) _) (fun _ => False)).drew.toBelow
  have HB3 : Hid (Below W.heap.size W ((W.alloc (.cells #[.int .i64 s.n] 3)).alloc (.cells #[] 3)).drew) := (Chg.ofBelow (((Below.refl _ _).alloc (Nat.le_refl _) _).alloc (by simp) _) (fun _ => False)).drew.toBelow
  have HO0 : Hid ((W.alloc (.cells #[] 3)).drew.ownsRow W.heap.size 3 1 (.slice (some ⟨W.heap.size, 0, none⟩) 0 0) 0 []) := World.ownsRow_lit W #[] 0 (Nat.le_refl _) (by simp [maxLen]) rfl
  have HO2' : Hid (((W.alloc (.cells #[] 3)).alloc (.cells #[.int .i64 s.n] 3)).drew.ownsRow W.heap.size 3 1 (.slice (some ⟨W.heap.size, 0, none⟩) 0 0) 0 []) := HO0.out.alloc (.cells #[.int .i64 s.n] 3)
  have HO3' : Hid (((W.alloc (.cells #[.int .i64 s.n] 3)).alloc (.cells #[] 3)).drew.ownsRow W.heap.size 3 1 (.slice (some ⟨W.heap.size + 1, 0, none⟩) 0 0) 0 []) := by
    have := World.ownsRow_lit (base := W.heap.size) (e := 3) (size := 1) (W.alloc (.cells #[.int .i64 s.n] 3)) #[] 0 (by simp) (by simp [maxLen]) rfl
    rw [World.size_alloc] at this
    exact this
  have HN2 : Hid (Blk ((W.alloc (.cells #[] 3)).alloc (.cells #[.int .i64 s.n] 3)).drew (W.heap.size + 1) 3 #[.int .i64 s.n]) := Blk.new_ _ _ _ (by simp)
  have HN3 : Hid (Blk ((W.alloc (.cells #[.int .i64 s.n] 3)).alloc (.cells #[] 3)).drew W.heap.size 3 #[.int .i64 s.n]) := (Blk.new _ _ _).alloc _
  clear hslW
  go_region_law
    ((first
      | (refine step_appendR (by rfl) (.tmp 23) (.tmp 24) (by rfl) W.heap.size _ 0 [] (by rfl) HO0.out A n c l (Row3 W) (by rfl) (HRD.out _ (by first | exact HB1.out | exact HB2.out | exact HB3.out)) H.out.nil_ (by omega) (by simp; try omega) ?_
         intro v1 w1 hO1 hC1 _
         have HO1 := hide hO1
         have HC1 := hide hC1
         have hk1 : w1.cell? ⟨w.heap.size, 4, none⟩ = some (.int .i64 s.n) := (hC1.cell (p := ⟨w.heap.size, 4, none⟩) (by have := HWS.out; simp; omega) (fun e => by have := HWS.out; simp [Value.ownBlock] at e; omega)).trans (HSN.out _ (by first | exact HB1.out | exact HB2.out | exact HB3.out))
         have hs1 : W.heap.size ≤ w1.heap.size := Nat.le_trans (by simp; try omega) hC1.size
         clear hO1 hC1)
      | (refine step_appendR (by rfl) (.tmp 23) (.tmp 24) (by rfl) W.heap.size _ 0 [] (by rfl) HO2'.out A n c l (Row3 W) (by rfl) (HRD.out _ (by first | exact HB1.out | exact HB2.out | exact HB3.out)) H.out.nil_ (by omega) (by simp; try omega) ?_
         intro v1 w1 hO1 hC1 _
         have HO1 := hide hO1
         have HC1 := hide hC1
         have hk1 : w1.cell? ⟨w.heap.size, 4, none⟩ = some (.int .i64 s.n) := (hC1.cell (p := ⟨w.heap.size, 4, none⟩) (by have := HWS.out; simp; omega) (fun e => by have := HWS.out; simp [Value.ownBlock] at e; omega)).trans (HSN.out _ (by first | exact HB1.out | exact HB2.out | exact HB3.out))
         have hs1 : W.heap.size ≤ w1.heap.size := Nat.le_trans (by simp; try omega) hC1.size
         clear hO1 hC1)
      | (refine step_appendR (by rfl) (.tmp 23) (.tmp 24) (by rfl) W.heap.size _ 0 [] (by rfl) HO3'.out A n c l (Row3 W) (by rfl) (HRD.out _ (by first | exact HB1.out | exact HB2.out | exact HB3.out)) H.out.nil_ (by omega) (by simp; try omega) ?_
         intro v1 w1 hO1 hC1 _
         have HO1 := hide hO1
         have HC1 := hide hC1
         have hk1 : w1.cell? ⟨w.heap.size, 4, none⟩ = some (.int .i64 s.n) := (hC1.cell (p := ⟨w.heap.size, 4, none⟩) (by have := HWS.out; simp; omega) (fun e => by have := HWS.out; simp [Value.ownBlock] at e; omega)).trans (HSN.out _ (by first | exact HB1.out | exact HB2.out | exact HB3.out))
         have hs1 : W.heap.size ≤ w1.heap.size := Nat.le_trans (by simp; try omega) hC1.size
         clear hO1 hC1)
      | (refine step_appendR (by rfl) (.tmp 25) (.tmp 28) (by rfl) W.heap.size v1 (0 + n) _ (by rfl) (HO1.out.alloc _) (some ⟨w1.heap.size, 0, none⟩) 1 1 [s.n] (fun _ => True) (by rfl) (reads_new _ _) (fun h => by cases h) (by omega) (by first | exact hs1 | (simp; omega)) ?_
         intro v2 w2 hO2 hC2 _
         have HO2 := hide hO2
         have hz := HZ0.out.chg ((Chg.ofBelow HB1.out (fun i => W.heap.size ≤ i)).trans (((HC1.out.mono (T := fun i => W.heap.size ≤ i) (fun i _ e => by simp [Value.ownBlock] at e; omega)).alloc _).trans (hC2.mono (T := fun i => W.heap.size ≤ i) (fun i _ e => (HO1.out.lt i e).1)) (fun _ _ h => h)) (fun _ _ h => h)) (fun h => by have := HWS.out; omega)
         have k0 : w2.cell? ⟨w.heap.size + 1, 0, none⟩ = some (.int .i64 0) := by rw [hz.cell]; rfl
         have k1 : w2.cell? ⟨w.heap.size + 1, 1, none⟩ = some (.bool false) := by rw [hz.cell]; rfl
         have k2 : w2.cell? ⟨w.heap.size + 1, 2, none⟩ = some (.slice none 0 0) := by rw [hz.cell]; rfl
         have k3 : w2.cell? ⟨w.heap.size + 1, 3, none⟩ = some (.bool false) := by rw [hz.cell]; rfl
         have f0 := hz.frozen 0
         have f1 := hz.frozen 1
         have f2 := hz.frozen 2
         have f3 := hz.frozen 3
         have HZ2 := hide hz
         have HC2 : Hid (Chg (fun i => W.heap.size ≤ i) W w2) := (Chg.ofBelow HB1.out (fun i => W.heap.size ≤ i)).trans (((HC1.out.mono (T := fun i => W.heap.size ≤ i) (fun i _ e => by simp [Value.ownBlock] at e; omega)).alloc _).trans (hC2.mono (T := fun i => W.heap.size ≤ i) (fun i _ e => (HO1.out.lt i e).1)) (fun _ _ h => h)) (fun _ _ h => h)
         clear hO2 hC2 hz)
      | (refine step_appendR (by rfl) (.tmp 25) (.tmp 28) (by rfl) W.heap.size v1 (0 + n) _ (by rfl) (HO1.out) (some ⟨W.heap.size + 1, 0, none⟩) 1 1 [s.n] (fun _ => True) (by rfl) (reads_blk (HN2.out.chg HC1.out (fun e => by simp [Value.ownBlock] at e))) (fun h => by cases h) (by omega) (by first | exact hs1 | (simp; omega)) ?_
         intro v2 w2 hO2 hC2 _
         have HO2 := hide hO2
         have hz := HZ0.out.chg ((Chg.ofBelow HB2.out (fun i => W.heap.size ≤ i)).trans ((HC1.out.mono (T := fun i => W.heap.size ≤ i) (fun i _ e => by simp [Value.ownBlock] at e; omega)).trans (hC2.mono (T := fun i => W.heap.size ≤ i) (fun i _ e => (HO1.out.lt i e).1)) (fun _ _ h => h)) (fun _ _ h => h)) (fun h => by have := HWS.out; omega)
         have k0 : w2.cell? ⟨w.heap.size + 1, 0, none⟩ = some (.int .i64 0) := by rw [hz.cell]; rfl
         have k1 : w2.cell? ⟨w.heap.size + 1, 1, none⟩ = some (.bool false) := by rw [hz.cell]; rfl
         have k2 : w2.cell? ⟨w.heap.size + 1, 2, none⟩ = some (.slice none 0 0) := by rw [hz.cell]; rfl
         have k3 : w2.cell? ⟨w.heap.size + 1, 3, none⟩ = some (.bool false) := by rw [hz.cell]; rfl
         have f0 := hz.frozen 0
         have f1 := hz.frozen 1
         have f2 := hz.frozen 2
         have f3 := hz.frozen 3
         have HZ2 := hide hz
         have HC2 : Hid (Chg (fun i => W.heap.size ≤ i) W w2) := (Chg.ofBelow HB2.out (fun i => W.heap.size ≤ i)).trans ((HC1.out.mono (T := fun i => W.heap.size ≤ i) (fun i _ e => by simp [Value.ownBlock] at e; omega)).trans (hC2.mono (T := fun i => W.heap.size ≤ i) (fun i _ e => (HO1.out.lt i e).1)) (fun _ _ h => h)) (fun _ _ h => h)
         clear hO2 hC2 hz)
      | (refine step_appendR (by rfl) (.tmp 25) (.tmp 28) (by rfl) W.heap.size v1 (0 + n) _ (by rfl) (HO1.out) (some ⟨W.heap.size, 0, none⟩) 1 1 [s.n] (fun _ => True) (by rfl) (reads_blk (HN3.out.chg HC1.out (fun e => by simp [Value.ownBlock] at e))) (fun h => by cases h) (by omega) (by first | exact hs1 | (simp; omega)) ?_
         intro v2 w2 hO2 hC2 _
         have HO2 := hide hO2
         have hz := HZ0.out.chg ((Chg.ofBelow HB3.out (fun i => W.heap.size ≤ i)).trans ((HC1.out.mono (T := fun i => W.heap.size ≤ i) (fun i _ e => by simp [Value.ownBlock] at e; omega)).trans (hC2.mono (T := fun i => W.heap.size ≤ i) (fun i _ e => (HO1.out.lt i e).1)) (fun _ _ h => h)) (fun _ _ h => h)) (fun h => by have := HWS.out; omega)
         have k0 : w2.cell? ⟨w.heap.size + 1, 0, none⟩ = some (.int .i64 0) := by rw [hz.cell]; rfl
         have k1 : w2.cell? ⟨w.heap.size + 1, 1, none⟩ = some (.bool false) := by rw [hz.cell]; rfl
         have k2 : w2.cell? ⟨w.heap.size + 1, 2, none⟩ = some (.slice none 0 0) := by rw [hz.cell]; rfl
         have k3 : w2.cell? ⟨w.heap.size + 1, 3, none⟩ = some (.bool false) := by rw [hz.cell]; rfl
         have f0 := hz.frozen 0
         have f1 := hz.frozen 1
         have f2 := hz.frozen 2
         have f3 := hz.frozen 3
         have HZ2 := hide hz
         have HC2 : Hid (Chg (fun i => W.heap.size ≤ i) W w2) := (Chg.ofBelow HB3.out (fun i => W.heap.size ≤ i)).trans ((HC1.out.mono (T := fun i => W.heap.size ≤ i) (fun i _ e => by simp [Value.ownBlock] at e; omega)).trans (hC2.mono (T := fun i => W.heap.size ≤ i) (fun i _ e => (HO1.out.lt i e).1)) (fun _ _ h => h)) (fun _ _ h => h)
         clear hO2 hC2 hz)
      | fail))
  all_goals
    have hfin : w2.ownsRow W.heap.size 3 1 v2 (n + 1) (ints (l ++ [s.n])) := by
      have h1 := HO2.out
      rw [List.nil_append, ← List.map_append, show 0 + n + 1 = n + 1 by omega] at h1
      exact h1
    obtain ⟨RA, rc, rfl, _⟩ := own_reads hfin
    have hslF := SliceIs.of_own hfin
    have hbl2 : Below w.heap.size w w2 := HBW.out.trans (HC2.out.below (Nat.le_refl _) (fun i hi => hi) |>.mono HBW.out.size)
    have HSF := hide hslF
    have HBL2 := hide hbl2
    clear hslF hbl2 hfin HO2 HC2 HO1 HC1
    go_wp2
    have hbF := (((HZ2.out.set_ 0 (.int .i64 0)).set_ 1 (.bool false)).set_ 2 (.slice none 0 0)).set_ 3 (.bool false)
    have hcF := set4_chg w2 (w.heap.size + 1) (.int .i64 0) (.bool false) (.slice none 0 0) (.bool false)
    generalize (((w2.setCell ⟨w.heap.size + 1, 0, none⟩ (.int .i64 0)).setCell ⟨w.heap.size + 1, 1, none⟩ (.bool false)).setCell ⟨w.heap.size + 1, 2, none⟩ (.slice none 0 0)).setCell ⟨w.heap.size + 1, 3, none⟩ (.bool false) = wF at *
    have j0 : wF.cell? ⟨w.heap.size + 1, 0, none⟩ = some (.int .i64 0) := by rw [hbF.cell]; rfl
    have j1 : wF.cell? ⟨w.heap.size + 1, 1, none⟩ = some (.bool false) := by rw [hbF.cell]; rfl
    have j2 : wF.cell? ⟨w.heap.size + 1, 2, none⟩ = some (.slice none 0 0) := by rw [hbF.cell]; rfl
    have j3 : wF.cell? ⟨w.heap.size + 1, 3, none⟩ = some (.bool false) := by rw [hbF.cell]; rfl
    have hblF : Below w.heap.size w wF := HBL2.out.trans (hcF.below HBL2.out.size (fun i hi => by omega))
    refine bodyPost_ret (v := .tuple #[.slice RA (n + 1) rc, .agg #[.int .i64 0, .bool false, .slice none 0 0, .bool false], .bool true]) ?_ rfl ?_
    · simp [results, Try.f16, go_sem, j0, j1, j2, j3]
    · have hq : specQ 1 l s = (l ++ [s.n], zeroAns, true) := by simp [specQ, hw]
      rw [hq]
      have hlen1 : (l ++ [s.n]).length = n + 1 := by rw [List.length_append, hln]; rfl
      unfold SqOut
      simp only [hlen1]
      exact ⟨RA, rc, rfl, HSF.out.row hcF (fun i cs hb e => hb.ne_ HZ2.out (by decide) e), hblF⟩

set_option maxHeartbeats 1000000 in
set_option maxRecDepth 100000 in
theorem squeue1_3 (A : Option Addr) (n c : Nat) (l : List Int) (s : StepD) (LA : Option Addr) (lc : Nat) (w : World) (h : SliceIs w (Row3 w) A n c l) (_hn : n ≤ 549755813888) (hw : s.what = 3) :
    Calls Try.prog 16 #[.int .i64 1, .slice A n c, .agg (s.cells (.slice LA s.list.length lc))] w (SqOut (specQ 1 l s) w) := by
  have H := hide h
  have hst := start34 w (s.cells (.slice LA s.list.length lc)) #[.int .i64 n, .bool false, .slice none 0 0, .bool false]
  have hln := h.len
  have HST := hide hst
  clear h hst
  unfold StepD.cells at *
  rw [hw] at HST ⊢
  go_enter Try.func16, Try.ntmps16
  go_wp2
  refine bodyPost_ret (v := .tuple #[.slice A n c, .agg #[.int .i64 n, .bool false, .slice none 0 0, .bool false], .bool true]) ?_ rfl ?_
  · simp [results, Try.f16, go_sem]
  · have hq : specQ 1 l s = (l, ⟨l.length, false, [], false⟩, true) := by simp [specQ, hw]
    rw [hq]
    exact ⟨A, c, by simp [AnsD.cells, hln], sq_same H.out HST.out.1 hln, HST.out.1⟩

set_option maxHeartbeats 1000000 in
set_option maxRecDepth 100000 in
theorem squeue1_e (A : Option Addr) (n c : Nat) (l : List Int) (s : StepD) (LA : Option Addr) (lc : Nat) (w : World) (h : SliceIs w (Row3 w) A n c l) (_hn : n ≤ 549755813888) (h0 : s.what ≠ 0) (h1 : s.what ≠ 1) (h2 : s.what ≠ 2) (h3 : s.what ≠ 3) :
    Calls Try.prog 16 #[.int .i64 1, .slice A n c, .agg (s.cells (.slice LA s.list.length lc))] w (SqOut (specQ 1 l s) w) := by
  have H := hide h
  have hq : specQ 1 l s = (l, zeroAns, decide (4 ≤ s.what ∧ s.what ≤ 6)) := by simp [specQ, h0, h1, h2, h3]
  have HQ := hide hq
  clear hq
  have e0 : (s.what == 0) = false := beq_eq_false_iff_ne.2 h0
  have e1 : (s.what == 1) = false := beq_eq_false_iff_ne.2 h1
  have e2 : (s.what == 2) = false := beq_eq_false_iff_ne.2 h2
  have e3 : (s.what == 3) = false := beq_eq_false_iff_ne.2 h3
  clear h0 h1 h2 h3
  have hst := start34 w (s.cells (.slice LA s.list.length lc)) #[.int .i64 0, .bool false, .slice none 0 0, .bool false]
  have hln := h.len
  have HST := hide hst
  clear h hst
  unfold StepD.cells at *
  go_enter Try.func16, Try.ntmps16
  have hfin : ∀ b : Bool, decide (4 ≤ s.what ∧ s.what ≤ 6) = b → Hid (SqOut (specQ 1 l s) w (.returned (.tuple #[.slice A n c, .agg #[.int .i64 0, .bool false, .slice none 0 0, .bool false], .bool b])) ((w.alloc (.cells #[.int .i64 s.what, .int .i64 s.which, .int .i64 s.index, .int .i64 s.bit, .int .i64 s.n, .int .i64 s.key, .int .i64 s.value, .slice LA s.list.length lc] 34)).alloc (.cells #[.int .i64 0, .bool false, .slice none 0 0, .bool false] 31)).drew) := by
    intro b hb
    have hbd : Below w.heap.size w ((w.alloc (.cells #[.int .i64 s.what, .int .i64 s.which, .int .i64 s.index, .int .i64 s.bit, .int .i64 s.n, .int .i64 s.key, .int .i64 s.value, .slice LA s.list.length lc] 34)).alloc (.cells #[.int .i64 0, .bool false, .slice none 0 0, .bool false] 31)).drew := (Chg.ofBelow HST.out.1 (fun _ => False)).drew.toBelow
    rw [HQ.out, hb]
    exact ⟨A, c, by simp [AnsD.cells, zeroAns, hln], sq_same H.out hbd hln, hbd⟩
  by_cases h4 : 4 ≤ s.what
  · by_cases h6 : s.what ≤ 6
    · have HF := hfin true (by simp [h4, h6])
      clear hfin
      go_wp2
      go_region
      go_wp2
      refine bodyPost_ret (v := .tuple #[.slice A n c, .agg #[.int .i64 0, .bool false, .slice none 0 0, .bool false], .bool true]) ?_ rfl HF.out
      simp [results, Try.f16, go_sem]
    · have HF := hfin false (by simp [h6])
      clear hfin
      go_wp2
      go_region
      go_wp2
      refine bodyPost_ret (v := .tuple #[.slice A n c, .agg #[.int .i64 0, .bool false, .slice none 0 0, .bool false], .bool false]) ?_ rfl HF.out
      simp [results, Try.f16, go_sem]
      try omega
  · have HF := hfin false (by simp [h4])
    have h4' : decide (4 ≤ s.what) = false := decide_eq_false h4
    clear hfin h4
    go_wp2
    go_region
    go_wp2
    refine bodyPost_ret (v := .tuple #[.slice A n c, .agg #[.int .i64 0, .bool false, .slice none 0 0, .bool false], .bool false]) ?_ rfl HF.out
    simp [results, Try.f16, go_sem]

set_option maxHeartbeats 1000000 in
set_option maxRecDepth 100000 in
theorem squeue1_1 (A : Option Addr) (n c : Nat) (l : List Int) (s : StepD) (LA : Option Addr) (lc : Nat) (w : World) (h : SliceIs w (Row3 w) A n c l) (_hn : n ≤ 549755813888) (hw : s.what = 1) :
    Calls Try.prog 16 #[.int .i64 1, .slice A n c, .agg (s.cells (.slice LA s.list.length lc))] w (SqOut (specQ 1 l s) w) := by
  have H := hide h
  have hst := start34 w (s.cells (.slice LA s.list.length lc)) #[.int .i64 0, .bool false, .slice none 0 0, .bool false]
  have hln := h.len
  have HST := hide hst
  clear h hst
  unfold StepD.cells at *
  rw [hw] at HST ⊢
  go_enter Try.func16, Try.ntmps16
  go_wp2_with fail
  generalize (w.alloc (.cells #[.int .i64 1, .int .i64 s.which, .int .i64 s.index, .int .i64 s.bit, .int .i64 s.n, .int .i64 s.key, .int .i64 s.value, .slice LA s.list.length lc] 34)).alloc (.cells #[.int .i64 0, .bool false, .slice none 0 0, .bool false] 31) = W at *
  refine (popped_any A n c 0 (0) l W (H.out.rowBelow HST.out.1) ?_ _hn).mono ?_
  · rcases Nat.eq_zero_or_pos n with h0 | h0
    · exact Or.inl (List.eq_nil_of_length_eq_zero (by omega))
    · exact Or.inr ⟨by omega, by omega⟩
  rintro e w1 ⟨A', c', rfl, hsl, hbl⟩
  have hz := HST.out.2.1.below hbl HST.out.2.1.lt
  have HSL := hide hsl
  have HBL : Hid (Below w.heap.size w w1) := HST.out.1.trans (hbl.mono HST.out.1.size)
  have HPN : Hid ((atAns l (0)).panicked = false) := atAns_pan l _
  clear hsl hbl
  generalize hat : atAns l (0) = an at *
  have HAT := hide hat
  generalize hm : (l.eraseIdx (0)).length = m at *
  have HM := hide hm
  clear hat hm
  have hsz1 : w.heap.size + 1 < w1.heap.size := hz.lt
  have k0 : w1.cell? ⟨w.heap.size + 1, 0, none⟩ = some (.int .i64 0) := by rw [hz.cell]; rfl
  have k1 : w1.cell? ⟨w.heap.size + 1, 1, none⟩ = some (.bool false) := by rw [hz.cell]; rfl
  have k2 : w1.cell? ⟨w.heap.size + 1, 2, none⟩ = some (.slice none 0 0) := by rw [hz.cell]; rfl
  have k3 : w1.cell? ⟨w.heap.size + 1, 3, none⟩ = some (.bool false) := by rw [hz.cell]; rfl
  have f0 := hz.frozen 0
  have f1 := hz.frozen 1
  have f2 := hz.frozen 2
  have f3 := hz.frozen 3
  have d0 : ∀ o, (w1.alloc o).cell? ⟨w.heap.size + 1, 0, none⟩ = some (.int .i64 0) := fun o => by rw [World.cell?_alloc_lt _ _ _ hsz1]; exact k0
  have d1 : ∀ o, (w1.alloc o).cell? ⟨w.heap.size + 1, 1, none⟩ = some (.bool false) := fun o => by rw [World.cell?_alloc_lt _ _ _ hsz1]; exact k1
  have d2 : ∀ o, (w1.alloc o).cell? ⟨w.heap.size + 1, 2, none⟩ = some (.slice none 0 0) := fun o => by rw [World.cell?_alloc_lt _ _ _ hsz1]; exact k2
  have d3 : ∀ o, (w1.alloc o).cell? ⟨w.heap.size + 1, 3, none⟩ = some (.bool false) := fun o => by rw [World.cell?_alloc_lt _ _ _ hsz1]; exact k3
  have hpn := HPN.out
  have HZ := hide hz
  clear hz
  unfold AnsD.cells
  go_wp2
  go_region
  go_wp2
  have hbF : Blk (((((w1.setCell ⟨w.heap.size + 1, 0, none⟩ (.int .i64 an.n)).setCell ⟨w.heap.size + 1, 1, none⟩ (.bool an.ok)).setCell ⟨w.heap.size + 1, 2, none⟩ (.slice none 0 0)).setCell ⟨w.heap.size + 1, 3, none⟩ (.bool false)).alloc (.cells #[.int .i64 an.n, .bool an.ok, .slice none 0 0, .bool false] 31)).drew (w.heap.size + 1) 31 #[.int .i64 an.n, .bool an.ok, .slice none 0 0, .bool false] := ((((HZ.out.set_ 0 _).set_ 1 _).set_ 2 _).set_ 3 _).alloc _
  have hcF : Chg (· = w.heap.size + 1) w1 (((((w1.setCell ⟨w.heap.size + 1, 0, none⟩ (.int .i64 an.n)).setCell ⟨w.heap.size + 1, 1, none⟩ (.bool an.ok)).setCell ⟨w.heap.size + 1, 2, none⟩ (.slice none 0 0)).setCell ⟨w.heap.size + 1, 3, none⟩ (.bool false)).alloc (.cells #[.int .i64 an.n, .bool an.ok, .slice none 0 0, .bool false] 31)).drew := ((set4_chg w1 (w.heap.size + 1) _ _ _ _).alloc _).drew
  generalize (((((w1.setCell ⟨w.heap.size + 1, 0, none⟩ (.int .i64 an.n)).setCell ⟨w.heap.size + 1, 1, none⟩ (.bool an.ok)).setCell ⟨w.heap.size + 1, 2, none⟩ (.slice none 0 0)).setCell ⟨w.heap.size + 1, 3, none⟩ (.bool false)).alloc (.cells #[.int .i64 an.n, .bool an.ok, .slice none 0 0, .bool false] 31)).drew = wF at *
  have j0 : wF.cell? ⟨w.heap.size + 1, 0, none⟩ = some (.int .i64 an.n) := by rw [hbF.cell]; rfl
  have j1 : wF.cell? ⟨w.heap.size + 1, 1, none⟩ = some (.bool an.ok) := by rw [hbF.cell]; rfl
  have j2 : wF.cell? ⟨w.heap.size + 1, 2, none⟩ = some (.slice none 0 0) := by rw [hbF.cell]; rfl
  have j3 : wF.cell? ⟨w.heap.size + 1, 3, none⟩ = some (.bool false) := by rw [hbF.cell]; rfl
  have hblF : Below w.heap.size w wF := HBL.out.trans (hcF.below (by omega) (fun i hi => by omega))
  refine bodyPost_ret (v := .tuple #[.slice A' m c', .agg #[.int .i64 an.n, .bool an.ok, .slice none 0 0, .bool false], .bool true]) ?_ rfl ?_
  · simp [results, Try.f16, go_sem, j0, j1, j2, j3]
  · have hq : specQ 1 l s = (l.eraseIdx (0), an, true) := by rw [← HAT.out]; simp [specQ, hw]
    rw [hq]
    have hac : an.cells (.slice none 0 0) = #[.int .i64 an.n, .bool an.ok, .slice none 0 0, .bool false] := by unfold AnsD.cells; rw [HPN.out]
    unfold SqOut
    simp only [hac]
    rw [HM.out]
    exact ⟨A', c', rfl, HSL.out.row hcF (fun i cs hb e => hb.ne_ HZ.out (by decide) e), hblF⟩

set_option maxHeartbeats 1000000 in
set_option maxRecDepth 100000 in
theorem squeue1_2 (A : Option Addr) (n c : Nat) (l : List Int) (s : StepD) (LA : Option Addr) (lc : Nat) (w : World) (h : SliceIs w (Row3 w) A n c l) (_hn : n ≤ 549755813888) (hw : s.what = 2) :
    Calls Try.prog 16 #[.int .i64 1, .slice A n c, .agg (s.cells (.slice LA s.list.length lc))] w (SqOut (specQ 1 l s) w) := by
  have H := hide h
  have hst := start34 w (s.cells (.slice LA s.list.length lc)) #[.int .i64 0, .bool false, .slice none 0 0, .bool false]
  have hln := h.len
  have HST := hide hst
  clear h hst
  unfold StepD.cells at *
  rw [hw] at HST ⊢
  go_enter Try.func16, Try.ntmps16
  go_wp2_with fail
  generalize (w.alloc (.cells #[.int .i64 2, .int .i64 s.which, .int .i64 s.index, .int .i64 s.bit, .int .i64 s.n, .int .i64 s.key, .int .i64 s.value, .slice LA s.list.length lc] 34)).alloc (.cells #[.int .i64 0, .bool false, .slice none 0 0, .bool false] 31) = W at *
  refine (popped_any A n c 0 (0) l W (H.out.rowBelow HST.out.1) ?_ _hn).mono ?_
  · rcases Nat.eq_zero_or_pos n with h0 | h0
    · exact Or.inl (List.eq_nil_of_length_eq_zero (by omega))
    · exact Or.inr ⟨by omega, by omega⟩
  rintro e w1 ⟨A', c', rfl, hsl, hbl⟩
  have hz := HST.out.2.1.below hbl HST.out.2.1.lt
  have HSL := hide hsl
  have HBL : Hid (Below w.heap.size w w1) := HST.out.1.trans (hbl.mono HST.out.1.size)
  have HPN : Hid ((atAns l (0)).panicked = false) := atAns_pan l _
  clear hsl hbl
  generalize hat : atAns l (0) = an at *
  have HAT := hide hat
  generalize hm : (l.eraseIdx (0)).length = m at *
  have HM := hide hm
  clear hat hm
  have hsz1 : w.heap.size + 1 < w1.heap.size := hz.lt
  have k0 : w1.cell? ⟨w.heap.size + 1, 0, none⟩ = some (.int .i64 0) := by rw [hz.cell]; rfl
  have k1 : w1.cell? ⟨w.heap.size + 1, 1, none⟩ = some (.bool false) := by rw [hz.cell]; rfl
  have k2 : w1.cell? ⟨w.heap.size + 1, 2, none⟩ = some (.slice none 0 0) := by rw [hz.cell]; rfl
  have k3 : w1.cell? ⟨w.heap.size + 1, 3, none⟩ = some (.bool false) := by rw [hz.cell]; rfl
  have f0 := hz.frozen 0
  have f1 := hz.frozen 1
  have f2 := hz.frozen 2
  have f3 := hz.frozen 3
  have d0 : ∀ o, (w1.alloc o).cell? ⟨w.heap.size + 1, 0, none⟩ = some (.int .i64 0) := fun o => by rw [World.cell?_alloc_lt _ _ _ hsz1]; exact k0
  have d1 : ∀ o, (w1.alloc o).cell? ⟨w.heap.size + 1, 1, none⟩ = some (.bool false) := fun o => by rw [World.cell?_alloc_lt _ _ _ hsz1]; exact k1
  have d2 : ∀ o, (w1.alloc o).cell? ⟨w.heap.size + 1, 2, none⟩ = some (.slice none 0 0) := fun o => by rw [World.cell?_alloc_lt _ _ _ hsz1]; exact k2
  have d3 : ∀ o, (w1.alloc o).cell? ⟨w.heap.size + 1, 3, none⟩ = some (.bool false) := fun o => by rw [World.cell?_alloc_lt _ _ _ hsz1]; exact k3
  have hpn := HPN.out
  have HZ := hide hz
  clear hz
  unfold AnsD.cells
  go_wp2
  go_region
  go_wp2
  have hbF : Blk (((((w1.setCell ⟨w.heap.size + 1, 0, none⟩ (.int .i64 an.n)).setCell ⟨w.heap.size + 1, 1, none⟩ (.bool an.ok)).setCell ⟨w.heap.size + 1, 2, none⟩ (.slice none 0 0)).setCell ⟨w.heap.size + 1, 3, none⟩ (.bool false)).alloc (.cells #[.int .i64 an.n, .bool an.ok, .slice none 0 0, .bool false] 31)).drew (w.heap.size + 1) 31 #[.int .i64 an.n, .bool an.ok, .slice none 0 0, .bool false] := ((((HZ.out.set_ 0 _).set_ 1 _).set_ 2 _).set_ 3 _).alloc _
  have hcF : Chg (· = w.heap.size + 1) w1 (((((w1.setCell ⟨w.heap.size + 1, 0, none⟩ (.int .i64 an.n)).setCell ⟨w.heap.size + 1, 1, none⟩ (.bool an.ok)).setCell ⟨w.heap.size + 1, 2, none⟩ (.slice none 0 0)).setCell ⟨w.heap.size + 1, 3, none⟩ (.bool false)).alloc (.cells #[.int .i64 an.n, .bool an.ok, .slice none 0 0, .bool false] 31)).drew := ((set4_chg w1 (w.heap.size + 1) _ _ _ _).alloc _).drew
  generalize (((((w1.setCell ⟨w.heap.size + 1, 0, none⟩ (.int .i64 an.n)).setCell ⟨w.heap.size + 1, 1, none⟩ (.bool an.ok)).setCell ⟨w.heap.size + 1, 2, none⟩ (.slice none 0 0)).setCell ⟨w.heap.size + 1, 3, none⟩ (.bool false)).alloc (.cells #[.int .i64 an.n, .bool an.ok, .slice none 0 0, .bool false] 31)).drew = wF at *
  have j0 : wF.cell? ⟨w.heap.size + 1, 0, none⟩ = some (.int .i64 an.n) := by rw [hbF.cell]; rfl
  have j1 : wF.cell? ⟨w.heap.size + 1, 1, none⟩ = some (.bool an.ok) := by rw [hbF.cell]; rfl
  have j2 : wF.cell? ⟨w.heap.size + 1, 2, none⟩ = some (.slice none 0 0) := by rw [hbF.cell]; rfl
  have j3 : wF.cell? ⟨w.heap.size + 1, 3, none⟩ = some (.bool false) := by rw [hbF.cell]; rfl
  have hblF : Below w.heap.size w wF := HBL.out.trans (hcF.below (by omega) (fun i hi => by omega))
  refine bodyPost_ret (v := .tuple #[.slice A n c, .agg #[.int .i64 an.n, .bool an.ok, .slice none 0 0, .bool false], .bool true]) ?_ rfl ?_
  · simp [results, Try.f16, go_sem, j0, j1, j2, j3]
  · have hq : specQ 1 l s = (l, an, true) := by rw [← HAT.out]; simp [specQ, hw]
    rw [hq]
    have hac : an.cells (.slice none 0 0) = #[.int .i64 an.n, .bool an.ok, .slice none 0 0, .bool false] := by unfold AnsD.cells; rw [HPN.out]
    unfold SqOut
    simp only [hac]
    rw [hln]
    exact ⟨A, c, rfl, H.out.rowBelow hblF, hblF⟩

theorem squeue0 (A : Option Addr) (n c : Nat) (l : List Int) (s : StepD) (LA : Option Addr) (lc : Nat) (w : World) (h : SliceIs w (Row3 w) A n c l) (hn : n ≤ 549755813888) :
    Calls Try.prog 16 #[.int .i64 0, .slice A n c, .agg (s.cells (.slice LA s.list.length lc))] w (SqOut (specQ 0 l s) w) := by
  by_cases h0 : s.what = 0
  · exact squeue0_0 A n c l s LA lc w h hn h0
  · by_cases h1 : s.what = 1
    · exact squeue0_1 A n c l s LA lc w h hn h1
    · by_cases h2 : s.what = 2
      · exact squeue0_2 A n c l s LA lc w h hn h2
      · by_cases h3 : s.what = 3
        · exact squeue0_3 A n c l s LA lc w h hn h3
        · exact squeue0_e A n c l s LA lc w h hn h0 h1 h2 h3

theorem squeue1 (A : Option Addr) (n c : Nat) (l : List Int) (s : StepD) (LA : Option Addr) (lc : Nat) (w : World) (h : SliceIs w (Row3 w) A n c l) (hn : n ≤ 549755813888) :
    Calls Try.prog 16 #[.int .i64 1, .slice A n c, .agg (s.cells (.slice LA s.list.length lc))] w (SqOut (specQ 1 l s) w) := by
  by_cases h0 : s.what = 0
  · exact squeue1_0 A n c l s LA lc w h hn h0
  · by_cases h1 : s.what = 1
    · exact squeue1_1 A n c l s LA lc w h hn h1
    · by_cases h2 : s.what = 2
      · exact squeue1_2 A n c l s LA lc w h hn h2
      · by_cases h3 : s.what = 3
        · exact squeue1_3 A n c l s LA lc w h hn h3
        · exact squeue1_e A n c l s LA lc w h hn h0 h1 h2 h3

end Go.Proofs.Ytammpllfmbmdmaa
