/- spec.Maps at the list 0: steps of the kinds 0,1,3,4,5,8,d. Under sizes alone. Printed by gen_sp.py. -/
import Derived.Test.YtammpllfmbmdmaaSp5
import Derived.Deep.RegionHeld3
import Derived.StillTailTactics
import Derived.Deep.Cut
namespace Go.Proofs.Ytammpllfmbmdmaa
open Go.RowKit

set_option linter.unusedVariables false in
set_option linter.unusedSimpArgs false in
set_option maxHeartbeats 2000000 in
set_option maxRecDepth 100000 in
theorem spm0_0 (Kx : Nat → Prop) (A0 A1 A : Option Addr) (c0 c1 c : Nat) (l0 l1 : List (Int × Int)) (s : StepD) (w : World) (hz0 : l0.length ≤ 274877906944) (hz1 : l1.length ≤ 274877906944) (h : TwoIn w Kx A0 A1 c0 c1 (l0, l1)) (hwh : s.which = 0) (hwhat : s.what = 0) :
    Calls Try.prog 20 #[.agg #[.slice A0 l0.length c0, .slice A1 l1.length c1], .agg (s.cells (.slice A s.list.length c))] w (SpecM Kx (specM (l0, l1) s) w) := by
  have hW := spW w (.slice A0 l0.length c0) (.slice A1 l1.length c1) (s.cells (.slice A s.list.length c))
  have hT : TwoIn _ (Lo Kx w.heap.size) A0 A1 c0 c1 (l0, l1) := h.lo.keep hW.bel.size (fun p hp _ => hW.bel.cell hp)
  clear h
  unfold StepD.cells at *
  rw [hwhat, hwh] at hW hT ⊢
  have HW := hide hW
  have HT := hide hT
  clear hW hT
  go_enter Try.func20, Try.ntmps20
  go_wp2_with fail
  generalize (((w.alloc (.cells #[.slice A0 l0.length c0, .slice A1 l1.length c1] 49)).alloc (.cells #[.int .i64 0, .int .i64 0, .int .i64 s.index, .int .i64 s.bit, .int .i64 s.n, .int .i64 s.key, .int .i64 s.value, .slice A s.list.length c] 34)).alloc (.cells #[.slice none 0 0, .slice none 0 0] 49)).alloc (.cells #[.int .i64 0, .bool false, .slice none 0 0, .bool false] 31) = W at *
  have m0 : W.cell? ⟨w.heap.size, 0, none⟩ = some (.slice A0 l0.length c0) := by rw [HW.out.m.cell]; rfl
  have m1 : W.cell? ⟨w.heap.size, 1, none⟩ = some (.slice A1 l1.length c1) := by rw [HW.out.m.cell]; rfl
  have s0 : W.cell? ⟨w.heap.size + 1, 0, none⟩ = some (.int .i64 0) := by rw [HW.out.s.cell]; rfl
  have s1 : W.cell? ⟨w.heap.size + 1, 1, none⟩ = some (.int .i64 0) := by rw [HW.out.s.cell]; rfl
  have s5 : W.cell? ⟨w.heap.size + 1, 5, none⟩ = some (.int .i64 s.key) := by rw [HW.out.s.cell]; rfl
  have s6 : W.cell? ⟨w.heap.size + 1, 6, none⟩ = some (.int .i64 s.value) := by rw [HW.out.s.cell]; rfl
  have ra0 : W.cell? ⟨w.heap.size + 2, 0, none⟩ = some (.slice none 0 0) := by rw [HW.out.r0.cell]; rfl
  have raf0 := HW.out.r0.frozen 0
  have ra1 : W.cell? ⟨w.heap.size + 2, 1, none⟩ = some (.slice none 0 0) := by rw [HW.out.r0.cell]; rfl
  have raf1 := HW.out.r0.frozen 1
  have rb0 : W.cell? ⟨w.heap.size + 3, 0, none⟩ = some (.int .i64 0) := by rw [HW.out.r1.cell]; rfl
  have rbf0 := HW.out.r1.frozen 0
  have rb1 : W.cell? ⟨w.heap.size + 3, 1, none⟩ = some (.bool false) := by rw [HW.out.r1.cell]; rfl
  have rbf1 := HW.out.r1.frozen 1
  have rb2 : W.cell? ⟨w.heap.size + 3, 2, none⟩ = some (.slice none 0 0) := by rw [HW.out.r1.cell]; rfl
  have rbf2 := HW.out.r1.frozen 2
  have rb3 : W.cell? ⟨w.heap.size + 3, 3, none⟩ = some (.bool false) := by rw [HW.out.r1.cell]; rfl
  have rbf3 := HW.out.r1.frozen 3
  go_quiet (fail)
  have HR : Hid (specM (l0, l1) s = ((putS l0 s.key s.value, l1), zeroAns, true)) := by show _ = _; simp [specM, spC, hwh, hwhat]
  have HKP : Hid (∀ X, Chg (fun i => i = w.heap.size) W X → X.cell? ⟨w.heap.size + 1, 1, none⟩ = some (.int .i64 0) ∧ X.cell? ⟨w.heap.size + 1, 5, none⟩ = some (.int .i64 s.key) ∧ X.cell? ⟨w.heap.size + 1, 6, none⟩ = some (.int .i64 s.value)) := fun X hX => by
    have hgl : w.heap.size + 1 < W.heap.size := by have := HW.out.size; omega
    exact ⟨(hX.cell (p := ⟨w.heap.size + 1, 1, none⟩) hgl (fun h => by have h9 : w.heap.size + 1 = w.heap.size := h; omega)).trans s1, (hX.cell (p := ⟨w.heap.size + 1, 5, none⟩) hgl (fun h => by have h9 : w.heap.size + 1 = w.heap.size := h; omega)).trans s5, (hX.cell (p := ⟨w.heap.size + 1, 6, none⟩) hgl (fun h => by have h9 : w.heap.size + 1 = w.heap.size := h; omega)).trans s6⟩
  go_wp2_with fail
  go_region_held3 (fun w' => w'.cell? ⟨w.heap.size + 1, 1, none⟩ = some (.int .i64 0) ∧ w'.cell? ⟨w.heap.size + 1, 5, none⟩ = some (.int .i64 s.key) ∧ w'.cell? ⟨w.heap.size + 1, 6, none⟩ = some (.int .i64 s.value))
    (exact HKP.out _ (by repeat (first | (with_reducible exact Chg.refl _ _) | (with_reducible exact HC3.out) | (with_reducible refine Chg.drewN ?_ _) | (with_reducible refine Chg.drew ?_) | (with_reducible refine Chg.alloc ?_ _) | (with_reducible refine Chg.setCell (S := fun i => i = w.heap.size) ?_ (fun _ => rfl) _))))
    ((go_at_call 63
      refine (put_pairs _ A0 l0.length c0 l0 s.key s.value _ (by exact HT.out.p0.keep (Nat.le_refl _) (fun _ _ _ => rfl)) (by omega)).mono ?_
      rintro e w3 ⟨v', rfl, ho, hb3⟩
      obtain ⟨A', c', rfl, _⟩ := own_reads ho
      have hp3 := pairs_own ho
      have hbW : Below W.heap.size W w3 := ⟨hb3.os, hb3.tape, hb3.output, hb3.size, hb3.block⟩
      have HC3 : Hid (Chg (fun i => i = w.heap.size) W w3) := Chg.ofBelow hbW _
      have HE3 : Hid (SpE w w3 (.slice A0 l0.length c0) (.slice A1 l1.length c1)) := HW.out.e.below (hbW.mono HW.out.e.size)
      have HO3 : Hid (PairsIn w3 (NotG Kx w.heap.size) A1 l1.length c1 l1) := (HT.out.notG.below hbW).p1
      have HN3 : Hid (PairsIn w3 (NotG Kx w.heap.size) A' (putS l0 s.key s.value).length c' (putS l0 s.key s.value)) := hp3.more (fun i _ hk => Or.inr (by have h9 : W.heap.size ≤ i := hk; have := HW.out.size; omega))
      have g0 : w3.cell? ⟨w.heap.size, 0, none⟩ = some (.slice A0 l0.length c0) := by rw [HE3.out.m.cell]; rfl
      have f0 : w3.frozen? ⟨w.heap.size, 0, none⟩ = false := HE3.out.m.frozen 0
      clear ho hp3 hb3 hbW))
  have HE4 : Hid (SpE w (w3.setCell ⟨w.heap.size, 0, none⟩ (.slice A' (putS l0 s.key s.value).length c')) ((.slice A' (putS l0 s.key s.value).length c')) (.slice A1 l1.length c1)) := HE3.out.set0 _
  have HP40 : Hid (PairsIn (w3.setCell ⟨w.heap.size, 0, none⟩ (.slice A' (putS l0 s.key s.value).length c')) (NotG Kx w.heap.size) _ _ _ _) := (HN3.out.setg _ _)
  have HP41 : Hid (PairsIn (w3.setCell ⟨w.heap.size, 0, none⟩ (.slice A' (putS l0 s.key s.value).length c')) (NotG Kx w.heap.size) _ _ _ _) := (HO3.out.setg _ _)
  generalize (w3.setCell ⟨w.heap.size, 0, none⟩ (.slice A' (putS l0 s.key s.value).length c')) = w4 at *
  have m0 : w4.cell? ⟨w.heap.size, 0, none⟩ = some ((.slice A' (putS l0 s.key s.value).length c')) := by rw [HE4.out.m.cell]; rfl
  have m1 : w4.cell? ⟨w.heap.size, 1, none⟩ = some (.slice A1 l1.length c1) := by rw [HE4.out.m.cell]; rfl
  have ra0 : w4.cell? ⟨w.heap.size + 2, 0, none⟩ = some (.slice none 0 0) := by rw [HE4.out.r0.cell]; rfl
  have raf0 := HE4.out.r0.frozen 0
  have ra1 : w4.cell? ⟨w.heap.size + 2, 1, none⟩ = some (.slice none 0 0) := by rw [HE4.out.r0.cell]; rfl
  have raf1 := HE4.out.r0.frozen 1
  have rb0 : w4.cell? ⟨w.heap.size + 3, 0, none⟩ = some (.int .i64 0) := by rw [HE4.out.r1.cell]; rfl
  have rbf0 := HE4.out.r1.frozen 0
  have rb1 : w4.cell? ⟨w.heap.size + 3, 1, none⟩ = some (.bool false) := by rw [HE4.out.r1.cell]; rfl
  have rbf1 := HE4.out.r1.frozen 1
  have rb2 : w4.cell? ⟨w.heap.size + 3, 2, none⟩ = some (.slice none 0 0) := by rw [HE4.out.r1.cell]; rfl
  have rbf2 := HE4.out.r1.frozen 2
  have rb3 : w4.cell? ⟨w.heap.size + 3, 3, none⟩ = some (.bool false) := by rw [HE4.out.r1.cell]; rfl
  have rbf3 := HE4.out.r1.frozen 3
  have HSIX : Hid (Blk (((((((w4).setCell ⟨w.heap.size + 1 + 1, 0, none⟩ ((.slice A' (putS l0 s.key s.value).length c'))).setCell ⟨w.heap.size + 1 + 1, 1, none⟩ (.slice A1 l1.length c1)).setCell ⟨w.heap.size + 1 + 1 + 1, 0, none⟩ (.int .i64 0)).setCell ⟨w.heap.size + 1 + 1 + 1, 1, none⟩ (.bool false)).setCell ⟨w.heap.size + 1 + 1 + 1, 2, none⟩ (.slice none 0 0)).setCell ⟨w.heap.size + 1 + 1 + 1, 3, none⟩ (.bool false)) (w.heap.size + 1 + 1) 49 #[(.slice A' (putS l0 s.key s.value).length c'), .slice A1 l1.length c1] ∧ Blk (((((((w4).setCell ⟨w.heap.size + 1 + 1, 0, none⟩ ((.slice A' (putS l0 s.key s.value).length c'))).setCell ⟨w.heap.size + 1 + 1, 1, none⟩ (.slice A1 l1.length c1)).setCell ⟨w.heap.size + 1 + 1 + 1, 0, none⟩ (.int .i64 0)).setCell ⟨w.heap.size + 1 + 1 + 1, 1, none⟩ (.bool false)).setCell ⟨w.heap.size + 1 + 1 + 1, 2, none⟩ (.slice none 0 0)).setCell ⟨w.heap.size + 1 + 1 + 1, 3, none⟩ (.bool false)) (w.heap.size + 1 + 1 + 1) 31 #[.int .i64 0, .bool false, .slice none 0 0, .bool false] ∧ Chg (fun i => i = w.heap.size + 1 + 1 ∨ i = w.heap.size + 1 + 1 + 1) (w4) (((((((w4).setCell ⟨w.heap.size + 1 + 1, 0, none⟩ ((.slice A' (putS l0 s.key s.value).length c'))).setCell ⟨w.heap.size + 1 + 1, 1, none⟩ (.slice A1 l1.length c1)).setCell ⟨w.heap.size + 1 + 1 + 1, 0, none⟩ (.int .i64 0)).setCell ⟨w.heap.size + 1 + 1 + 1, 1, none⟩ (.bool false)).setCell ⟨w.heap.size + 1 + 1 + 1, 2, none⟩ (.slice none 0 0)).setCell ⟨w.heap.size + 1 + 1 + 1, 3, none⟩ (.bool false))) := sp_six (g := w.heap.size) (E := w4) HE4.out.r0 HE4.out.r1 ((.slice A' (putS l0 s.key s.value).length c')) (.slice A1 l1.length c1) (.int .i64 0) (.bool false) (.slice none 0 0) (.bool false)
  go_wp2
  generalize (((((((w4).setCell ⟨w.heap.size + 1 + 1, 0, none⟩ ((.slice A' (putS l0 s.key s.value).length c'))).setCell ⟨w.heap.size + 1 + 1, 1, none⟩ (.slice A1 l1.length c1)).setCell ⟨w.heap.size + 1 + 1 + 1, 0, none⟩ (.int .i64 0)).setCell ⟨w.heap.size + 1 + 1 + 1, 1, none⟩ (.bool false)).setCell ⟨w.heap.size + 1 + 1 + 1, 2, none⟩ (.slice none 0 0)).setCell ⟨w.heap.size + 1 + 1 + 1, 3, none⟩ (.bool false)) = w9 at *
  have z0 : w9.cell? ⟨w.heap.size + 1 + 1, 0, none⟩ = some ((.slice A' (putS l0 s.key s.value).length c')) := by rw [HSIX.out.1.cell]; rfl
  have z1 : w9.cell? ⟨w.heap.size + 1 + 1, 1, none⟩ = some (.slice A1 l1.length c1) := by rw [HSIX.out.1.cell]; rfl
  have y0 : w9.cell? ⟨w.heap.size + 1 + 1 + 1, 0, none⟩ = some (.int .i64 0) := by rw [HSIX.out.2.1.cell]; rfl
  have y1 : w9.cell? ⟨w.heap.size + 1 + 1 + 1, 1, none⟩ = some (.bool false) := by rw [HSIX.out.2.1.cell]; rfl
  have y2 : w9.cell? ⟨w.heap.size + 1 + 1 + 1, 2, none⟩ = some (.slice none 0 0) := by rw [HSIX.out.2.1.cell]; rfl
  have y3 : w9.cell? ⟨w.heap.size + 1 + 1 + 1, 3, none⟩ = some (.bool false) := by rw [HSIX.out.2.1.cell]; rfl
  refine bodyPost_ret (v := .tuple #[.agg #[(.slice A' (putS l0 s.key s.value).length c'), .slice A1 l1.length c1], .agg #[.int .i64 0, .bool false, .slice none 0 0, .bool false], .bool true]) ?_ rfl ?_
  · simp [results, Try.f20, go_sem, z0, z1, y0, y1, y2, y3]
  · exact sp_fin (E := w4) (x := (putS l0 s.key s.value, l1)) (ans := zeroAns) (okb := true) HR.out HE4.out.r0 HE4.out.r1 ⟨HP40.out.notR, HP41.out.notR⟩ rfl SliceIs.none_ HE4.out.bel HSIX.out.2.2

set_option linter.unusedVariables false in
set_option linter.unusedSimpArgs false in
set_option maxHeartbeats 2000000 in
set_option maxRecDepth 100000 in
theorem spm0_1 (Kx : Nat → Prop) (A0 A1 A : Option Addr) (c0 c1 c : Nat) (l0 l1 : List (Int × Int)) (s : StepD) (w : World) (hz0 : l0.length ≤ 274877906944) (hz1 : l1.length ≤ 274877906944) (h : TwoIn w Kx A0 A1 c0 c1 (l0, l1)) (hwh : s.which = 0) (hwhat : s.what = 1) :
    Calls Try.prog 20 #[.agg #[.slice A0 l0.length c0, .slice A1 l1.length c1], .agg (s.cells (.slice A s.list.length c))] w (SpecM Kx (specM (l0, l1) s) w) := by
  have hW := spW w (.slice A0 l0.length c0) (.slice A1 l1.length c1) (s.cells (.slice A s.list.length c))
  have hT : TwoIn _ (Lo Kx w.heap.size) A0 A1 c0 c1 (l0, l1) := h.lo.keep hW.bel.size (fun p hp _ => hW.bel.cell hp)
  clear h
  unfold StepD.cells at *
  rw [hwhat, hwh] at hW hT ⊢
  have HW := hide hW
  have HT := hide hT
  clear hW hT
  go_enter Try.func20, Try.ntmps20
  go_wp2_with fail
  generalize (((w.alloc (.cells #[.slice A0 l0.length c0, .slice A1 l1.length c1] 49)).alloc (.cells #[.int .i64 1, .int .i64 0, .int .i64 s.index, .int .i64 s.bit, .int .i64 s.n, .int .i64 s.key, .int .i64 s.value, .slice A s.list.length c] 34)).alloc (.cells #[.slice none 0 0, .slice none 0 0] 49)).alloc (.cells #[.int .i64 0, .bool false, .slice none 0 0, .bool false] 31) = W at *
  have m0 : W.cell? ⟨w.heap.size, 0, none⟩ = some (.slice A0 l0.length c0) := by rw [HW.out.m.cell]; rfl
  have m1 : W.cell? ⟨w.heap.size, 1, none⟩ = some (.slice A1 l1.length c1) := by rw [HW.out.m.cell]; rfl
  have s0 : W.cell? ⟨w.heap.size + 1, 0, none⟩ = some (.int .i64 1) := by rw [HW.out.s.cell]; rfl
  have s1 : W.cell? ⟨w.heap.size + 1, 1, none⟩ = some (.int .i64 0) := by rw [HW.out.s.cell]; rfl
  have s5 : W.cell? ⟨w.heap.size + 1, 5, none⟩ = some (.int .i64 s.key) := by rw [HW.out.s.cell]; rfl
  have s6 : W.cell? ⟨w.heap.size + 1, 6, none⟩ = some (.int .i64 s.value) := by rw [HW.out.s.cell]; rfl
  have ra0 : W.cell? ⟨w.heap.size + 2, 0, none⟩ = some (.slice none 0 0) := by rw [HW.out.r0.cell]; rfl
  have raf0 := HW.out.r0.frozen 0
  have ra1 : W.cell? ⟨w.heap.size + 2, 1, none⟩ = some (.slice none 0 0) := by rw [HW.out.r0.cell]; rfl
  have raf1 := HW.out.r0.frozen 1
  have rb0 : W.cell? ⟨w.heap.size + 3, 0, none⟩ = some (.int .i64 0) := by rw [HW.out.r1.cell]; rfl
  have rbf0 := HW.out.r1.frozen 0
  have rb1 : W.cell? ⟨w.heap.size + 3, 1, none⟩ = some (.bool false) := by rw [HW.out.r1.cell]; rfl
  have rbf1 := HW.out.r1.frozen 1
  have rb2 : W.cell? ⟨w.heap.size + 3, 2, none⟩ = some (.slice none 0 0) := by rw [HW.out.r1.cell]; rfl
  have rbf2 := HW.out.r1.frozen 2
  have rb3 : W.cell? ⟨w.heap.size + 3, 3, none⟩ = some (.bool false) := by rw [HW.out.r1.cell]; rfl
  have rbf3 := HW.out.r1.frozen 3
  go_quiet (fail)
  have hfa := find_any (Lo Kx w.heap.size) A0 l0.length c0 l0 s.key (W.drewN nq) (HT.out.p0.keep (Nat.le_refl _) (fun _ _ _ => rfl)) (by omega)
  have HFA := hide hfa
  clear hfa
  go_wp2_with fail
  refine HFA.out.mono ?_
  rintro e w3 ⟨rfl, hb3⟩
  have hbW : Below W.heap.size W w3 := ⟨hb3.os, hb3.tape, hb3.output, hb3.size, hb3.block⟩
  have m0 : w3.cell? ⟨w.heap.size, 0, none⟩ = some (.slice A0 l0.length c0) := by rw [(HW.out.m.below hbW HW.out.m.lt).cell]; rfl
  have m1 : w3.cell? ⟨w.heap.size, 1, none⟩ = some (.slice A1 l1.length c1) := by rw [(HW.out.m.below hbW HW.out.m.lt).cell]; rfl
  have hr0 := HW.out.r0.below hbW HW.out.r0.lt
  have hr1 := HW.out.r1.below hbW HW.out.r1.lt
  have hmm := HW.out.m.below hbW HW.out.m.lt
  have hss := HW.out.s.below hbW HW.out.s.lt
  have HR0 := hide hr0
  have HR1 := hide hr1
  have HT3 : Hid (TwoIn w3 (Lo Kx w.heap.size) A0 A1 c0 c1 (l0, l1)) := HT.out.below hbW
  have HB3 : Hid (Below w.heap.size w w3) := HW.out.bel.trans (hbW.mono HW.out.bel.size)
  clear hb3 hbW
  have ra0 : w3.cell? ⟨w.heap.size + 1 + 1, 0, none⟩ = some (.slice none 0 0) := by rw [hr0.cell]; rfl
  have raf0 : w3.frozen? ⟨w.heap.size + 1 + 1, 0, none⟩ = false := hr0.frozen 0
  have ra1 : w3.cell? ⟨w.heap.size + 1 + 1, 1, none⟩ = some (.slice none 0 0) := by rw [hr0.cell]; rfl
  have raf1 : w3.frozen? ⟨w.heap.size + 1 + 1, 1, none⟩ = false := hr0.frozen 1
  have rb0 : w3.cell? ⟨w.heap.size + 1 + 1 + 1, 0, none⟩ = some (.int .i64 0) := by rw [hr1.cell]; rfl
  have rbf0 : w3.frozen? ⟨w.heap.size + 1 + 1 + 1, 0, none⟩ = false := hr1.frozen 0
  have rb1 : w3.cell? ⟨w.heap.size + 1 + 1 + 1, 1, none⟩ = some (.bool false) := by rw [hr1.cell]; rfl
  have rbf1 : w3.frozen? ⟨w.heap.size + 1 + 1 + 1, 1, none⟩ = false := hr1.frozen 1
  have rb2 : w3.cell? ⟨w.heap.size + 1 + 1 + 1, 2, none⟩ = some (.slice none 0 0) := by rw [hr1.cell]; rfl
  have rbf2 : w3.frozen? ⟨w.heap.size + 1 + 1 + 1, 2, none⟩ = false := hr1.frozen 2
  have rb3 : w3.cell? ⟨w.heap.size + 1 + 1 + 1, 3, none⟩ = some (.bool false) := by rw [hr1.cell]; rfl
  have rbf3 : w3.frozen? ⟨w.heap.size + 1 + 1 + 1, 3, none⟩ = false := hr1.frozen 3
  clear hr0 hr1
  cases hf : findI l0 s.key with
  | none =>
    have hfz : findZ l0 s.key = -1 := by unfold findZ; rw [hf]
    have hlk := (find_lookup l0 s.key).2 hf
    rw [hfz]
    have HR : Hid (specM (l0, l1) s = ((l0, l1), zeroAns, true)) := by show _ = _; simp [specM, spC, hwh, hwhat, hlk]
    have HSIX : Hid (Blk (((((((w3).setCell ⟨w.heap.size + 1 + 1, 0, none⟩ (.slice A0 l0.length c0)).setCell ⟨w.heap.size + 1 + 1, 1, none⟩ (.slice A1 l1.length c1)).setCell ⟨w.heap.size + 1 + 1 + 1, 0, none⟩ (.int .i64 0)).setCell ⟨w.heap.size + 1 + 1 + 1, 1, none⟩ (.bool false)).setCell ⟨w.heap.size + 1 + 1 + 1, 2, none⟩ (.slice none 0 0)).setCell ⟨w.heap.size + 1 + 1 + 1, 3, none⟩ (.bool false)) (w.heap.size + 1 + 1) 49 #[.slice A0 l0.length c0, .slice A1 l1.length c1] ∧ Blk (((((((w3).setCell ⟨w.heap.size + 1 + 1, 0, none⟩ (.slice A0 l0.length c0)).setCell ⟨w.heap.size + 1 + 1, 1, none⟩ (.slice A1 l1.length c1)).setCell ⟨w.heap.size + 1 + 1 + 1, 0, none⟩ (.int .i64 0)).setCell ⟨w.heap.size + 1 + 1 + 1, 1, none⟩ (.bool false)).setCell ⟨w.heap.size + 1 + 1 + 1, 2, none⟩ (.slice none 0 0)).setCell ⟨w.heap.size + 1 + 1 + 1, 3, none⟩ (.bool false)) (w.heap.size + 1 + 1 + 1) 31 #[.int .i64 0, .bool false, .slice none 0 0, .bool false] ∧ Chg (fun i => i = w.heap.size + 1 + 1 ∨ i = w.heap.size + 1 + 1 + 1) (w3) (((((((w3).setCell ⟨w.heap.size + 1 + 1, 0, none⟩ (.slice A0 l0.length c0)).setCell ⟨w.heap.size + 1 + 1, 1, none⟩ (.slice A1 l1.length c1)).setCell ⟨w.heap.size + 1 + 1 + 1, 0, none⟩ (.int .i64 0)).setCell ⟨w.heap.size + 1 + 1 + 1, 1, none⟩ (.bool false)).setCell ⟨w.heap.size + 1 + 1 + 1, 2, none⟩ (.slice none 0 0)).setCell ⟨w.heap.size + 1 + 1 + 1, 3, none⟩ (.bool false))) := sp_six (g := w.heap.size) (E := w3) HR0.out HR1.out (.slice A0 l0.length c0) (.slice A1 l1.length c1) (.int .i64 0) (.bool false) (.slice none 0 0) (.bool false)
    go_wp2
    generalize (((((((w3).setCell ⟨w.heap.size + 1 + 1, 0, none⟩ (.slice A0 l0.length c0)).setCell ⟨w.heap.size + 1 + 1, 1, none⟩ (.slice A1 l1.length c1)).setCell ⟨w.heap.size + 1 + 1 + 1, 0, none⟩ (.int .i64 0)).setCell ⟨w.heap.size + 1 + 1 + 1, 1, none⟩ (.bool false)).setCell ⟨w.heap.size + 1 + 1 + 1, 2, none⟩ (.slice none 0 0)).setCell ⟨w.heap.size + 1 + 1 + 1, 3, none⟩ (.bool false)) = w9 at *
    have z0 : w9.cell? ⟨w.heap.size + 1 + 1, 0, none⟩ = some (.slice A0 l0.length c0) := by rw [HSIX.out.1.cell]; rfl
    have z1 : w9.cell? ⟨w.heap.size + 1 + 1, 1, none⟩ = some (.slice A1 l1.length c1) := by rw [HSIX.out.1.cell]; rfl
    have y0 : w9.cell? ⟨w.heap.size + 1 + 1 + 1, 0, none⟩ = some (.int .i64 0) := by rw [HSIX.out.2.1.cell]; rfl
    have y1 : w9.cell? ⟨w.heap.size + 1 + 1 + 1, 1, none⟩ = some (.bool false) := by rw [HSIX.out.2.1.cell]; rfl
    have y2 : w9.cell? ⟨w.heap.size + 1 + 1 + 1, 2, none⟩ = some (.slice none 0 0) := by rw [HSIX.out.2.1.cell]; rfl
    have y3 : w9.cell? ⟨w.heap.size + 1 + 1 + 1, 3, none⟩ = some (.bool false) := by rw [HSIX.out.2.1.cell]; rfl
    refine bodyPost_ret (v := .tuple #[.agg #[.slice A0 l0.length c0, .slice A1 l1.length c1], .agg #[.int .i64 0, .bool false, .slice none 0 0, .bool false], .bool true]) ?_ rfl ?_
    · simp [results, Try.f20, go_sem, z0, z1, y0, y1, y2, y3]
    · exact sp_fin (E := w3) (x := (l0, l1)) (ans := zeroAns) (okb := true) HR.out HR0.out HR1.out HT3.out.notR rfl SliceIs.none_ HB3.out HSIX.out.2.2
  | some i =>
    have hfz : findZ l0 s.key = (i : Int) := by unfold findZ; rw [hf]
    obtain ⟨v, hli, hlk⟩ := (find_lookup l0 s.key).1 i hf
    have hil : i < l0.length := (List.getElem?_eq_some_iff.1 hli).1
    obtain ⟨ad, q, had, hq, hlt, e1, e2⟩ := HT3.out.p0.at_ hil
    obtain rfl := Option.some.inj (hq.symm.trans hli)
    have hA : A0 = some ad := had
    subst hA
    have hi0 : (0 : Int) ≤ (i : Int) := by omega
    have hi1 : (i : Int) < (l0.length : Int) := by omega
    rw [hfz]
    have HR : Hid (specM (l0, l1) s = ((l0, l1), ⟨v, true, [], false⟩, true)) := by show _ = _; simp [specM, spC, hwh, hwhat, hlk]
    clear hfz hf hq hli had
    have hadl : ad.block < w.heap.size := by
      obtain ⟨ad', e9, hk9, _, _⟩ := HT3.out.p0.reads.2 (by show 0 < l0.length; omega)
      cases e9; exact hk9.2
    have HKP : Hid (∀ X, Chg (fun i => i = w.heap.size + 1 + 1 ∨ i = w.heap.size + 1 + 1 + 1) w3 X → X.cell? ⟨w.heap.size, 0, none⟩ = some (.slice (some ad) l0.length c0) ∧ X.cell? ⟨w.heap.size, 1, none⟩ = some (.slice A1 l1.length c1) ∧ X.cell? ⟨(ad.add (i * 2)).block, (ad.add (i * 2)).off + 1, none⟩ = some (.int .i64 v)) := fun X hX => by
      have hgl : w.heap.size < w3.heap.size := by have := HR0.out.lt; omega
      exact ⟨(hX.cell (p := ⟨w.heap.size, 0, none⟩) hgl (fun h => by have h9 : w.heap.size = w.heap.size + 1 + 1 ∨ w.heap.size = w.heap.size + 1 + 1 + 1 := h; omega)).trans m0, (hX.cell (p := ⟨w.heap.size, 1, none⟩) hgl (fun h => by have h9 : w.heap.size = w.heap.size + 1 + 1 ∨ w.heap.size = w.heap.size + 1 + 1 + 1 := h; omega)).trans m1, (hX.cell (p := ⟨(ad.add (i * 2)).block, (ad.add (i * 2)).off + 1, none⟩) (by show (ad.add (i * 2)).block < _; rw [block_of_add]; omega) (fun h => by have h9 : (ad.add (i * 2)).block = w.heap.size + 1 + 1 ∨ (ad.add (i * 2)).block = w.heap.size + 1 + 1 + 1 := h; rw [block_of_add] at h9; omega)).trans e2⟩
    go_wp2_with fail
    go_region_held3 (fun w' => w'.cell? ⟨w.heap.size, 0, none⟩ = some (.slice (some ad) l0.length c0) ∧ w'.cell? ⟨w.heap.size, 1, none⟩ = some (.slice A1 l1.length c1) ∧ w'.cell? ⟨(ad.add (i * 2)).block, (ad.add (i * 2)).off + 1, none⟩ = some (.int .i64 v))
      (exact HKP.out _ (by repeat (first | (with_reducible exact Chg.refl _ _) | (with_reducible refine Chg.drew ?_) | (with_reducible refine Chg.alloc ?_ _) | ((with_reducible refine Chg.setCell (S := fun i => i = w.heap.size + 1 + 1 ∨ i = w.heap.size + 1 + 1 + 1) ?_ ?_ _); rotate_left; first | exact fun _ => Or.inl rfl | exact fun _ => Or.inr rfl))))
      (fail)
    have HSIX : Hid (Blk (((((((w3).setCell ⟨w.heap.size + 1 + 1, 0, none⟩ (.slice (some ad) l0.length c0)).setCell ⟨w.heap.size + 1 + 1, 1, none⟩ (.slice A1 l1.length c1)).setCell ⟨w.heap.size + 1 + 1 + 1, 0, none⟩ (.int .i64 v)).setCell ⟨w.heap.size + 1 + 1 + 1, 1, none⟩ (.bool true)).setCell ⟨w.heap.size + 1 + 1 + 1, 2, none⟩ (.slice none 0 0)).setCell ⟨w.heap.size + 1 + 1 + 1, 3, none⟩ (.bool false)) (w.heap.size + 1 + 1) 49 #[.slice (some ad) l0.length c0, .slice A1 l1.length c1] ∧ Blk (((((((w3).setCell ⟨w.heap.size + 1 + 1, 0, none⟩ (.slice (some ad) l0.length c0)).setCell ⟨w.heap.size + 1 + 1, 1, none⟩ (.slice A1 l1.length c1)).setCell ⟨w.heap.size + 1 + 1 + 1, 0, none⟩ (.int .i64 v)).setCell ⟨w.heap.size + 1 + 1 + 1, 1, none⟩ (.bool true)).setCell ⟨w.heap.size + 1 + 1 + 1, 2, none⟩ (.slice none 0 0)).setCell ⟨w.heap.size + 1 + 1 + 1, 3, none⟩ (.bool false)) (w.heap.size + 1 + 1 + 1) 31 #[.int .i64 v, .bool true, .slice none 0 0, .bool false] ∧ Chg (fun i => i = w.heap.size + 1 + 1 ∨ i = w.heap.size + 1 + 1 + 1) (w3) (((((((w3).setCell ⟨w.heap.size + 1 + 1, 0, none⟩ (.slice (some ad) l0.length c0)).setCell ⟨w.heap.size + 1 + 1, 1, none⟩ (.slice A1 l1.length c1)).setCell ⟨w.heap.size + 1 + 1 + 1, 0, none⟩ (.int .i64 v)).setCell ⟨w.heap.size + 1 + 1 + 1, 1, none⟩ (.bool true)).setCell ⟨w.heap.size + 1 + 1 + 1, 2, none⟩ (.slice none 0 0)).setCell ⟨w.heap.size + 1 + 1 + 1, 3, none⟩ (.bool false))) := sp_six (g := w.heap.size) (E := w3) HR0.out HR1.out (.slice (some ad) l0.length c0) (.slice A1 l1.length c1) (.int .i64 v) (.bool true) (.slice none 0 0) (.bool false)
    go_wp2
    generalize (((((((w3).setCell ⟨w.heap.size + 1 + 1, 0, none⟩ (.slice (some ad) l0.length c0)).setCell ⟨w.heap.size + 1 + 1, 1, none⟩ (.slice A1 l1.length c1)).setCell ⟨w.heap.size + 1 + 1 + 1, 0, none⟩ (.int .i64 v)).setCell ⟨w.heap.size + 1 + 1 + 1, 1, none⟩ (.bool true)).setCell ⟨w.heap.size + 1 + 1 + 1, 2, none⟩ (.slice none 0 0)).setCell ⟨w.heap.size + 1 + 1 + 1, 3, none⟩ (.bool false)) = w9 at *
    have z0 : w9.cell? ⟨w.heap.size + 1 + 1, 0, none⟩ = some (.slice (some ad) l0.length c0) := by rw [HSIX.out.1.cell]; rfl
    have z1 : w9.cell? ⟨w.heap.size + 1 + 1, 1, none⟩ = some (.slice A1 l1.length c1) := by rw [HSIX.out.1.cell]; rfl
    have y0 : w9.cell? ⟨w.heap.size + 1 + 1 + 1, 0, none⟩ = some (.int .i64 v) := by rw [HSIX.out.2.1.cell]; rfl
    have y1 : w9.cell? ⟨w.heap.size + 1 + 1 + 1, 1, none⟩ = some (.bool true) := by rw [HSIX.out.2.1.cell]; rfl
    have y2 : w9.cell? ⟨w.heap.size + 1 + 1 + 1, 2, none⟩ = some (.slice none 0 0) := by rw [HSIX.out.2.1.cell]; rfl
    have y3 : w9.cell? ⟨w.heap.size + 1 + 1 + 1, 3, none⟩ = some (.bool false) := by rw [HSIX.out.2.1.cell]; rfl
    refine bodyPost_ret (v := .tuple #[.agg #[.slice (some ad) l0.length c0, .slice A1 l1.length c1], .agg #[.int .i64 v, .bool true, .slice none 0 0, .bool false], .bool true]) ?_ rfl ?_
    · simp [results, Try.f20, go_sem, z0, z1, y0, y1, y2, y3]
    · exact sp_fin (E := w3) (x := (l0, l1)) (ans := ⟨v, true, [], false⟩) (okb := true) HR.out HR0.out HR1.out HT3.out.notR rfl SliceIs.none_ HB3.out HSIX.out.2.2.drew

set_option linter.unusedVariables false in
set_option linter.unusedSimpArgs false in
set_option maxHeartbeats 2000000 in
set_option maxRecDepth 100000 in
theorem spm0_3 (Kx : Nat → Prop) (A0 A1 A : Option Addr) (c0 c1 c : Nat) (l0 l1 : List (Int × Int)) (s : StepD) (w : World) (hz0 : l0.length ≤ 274877906944) (hz1 : l1.length ≤ 274877906944) (h : TwoIn w Kx A0 A1 c0 c1 (l0, l1)) (hwh : s.which = 0) (hwhat : s.what = 3) :
    Calls Try.prog 20 #[.agg #[.slice A0 l0.length c0, .slice A1 l1.length c1], .agg (s.cells (.slice A s.list.length c))] w (SpecM Kx (specM (l0, l1) s) w) := by
  have hW := spW w (.slice A0 l0.length c0) (.slice A1 l1.length c1) (s.cells (.slice A s.list.length c))
  have hT : TwoIn _ (Lo Kx w.heap.size) A0 A1 c0 c1 (l0, l1) := h.lo.keep hW.bel.size (fun p hp _ => hW.bel.cell hp)
  clear h
  unfold StepD.cells at *
  rw [hwhat, hwh] at hW hT ⊢
  have HW := hide hW
  have HT := hide hT
  clear hW hT
  go_enter Try.func20, Try.ntmps20
  go_wp2_with fail
  generalize (((w.alloc (.cells #[.slice A0 l0.length c0, .slice A1 l1.length c1] 49)).alloc (.cells #[.int .i64 3, .int .i64 0, .int .i64 s.index, .int .i64 s.bit, .int .i64 s.n, .int .i64 s.key, .int .i64 s.value, .slice A s.list.length c] 34)).alloc (.cells #[.slice none 0 0, .slice none 0 0] 49)).alloc (.cells #[.int .i64 0, .bool false, .slice none 0 0, .bool false] 31) = W at *
  have m0 : W.cell? ⟨w.heap.size, 0, none⟩ = some (.slice A0 l0.length c0) := by rw [HW.out.m.cell]; rfl
  have m1 : W.cell? ⟨w.heap.size, 1, none⟩ = some (.slice A1 l1.length c1) := by rw [HW.out.m.cell]; rfl
  have s0 : W.cell? ⟨w.heap.size + 1, 0, none⟩ = some (.int .i64 3) := by rw [HW.out.s.cell]; rfl
  have s1 : W.cell? ⟨w.heap.size + 1, 1, none⟩ = some (.int .i64 0) := by rw [HW.out.s.cell]; rfl
  have s5 : W.cell? ⟨w.heap.size + 1, 5, none⟩ = some (.int .i64 s.key) := by rw [HW.out.s.cell]; rfl
  have s6 : W.cell? ⟨w.heap.size + 1, 6, none⟩ = some (.int .i64 s.value) := by rw [HW.out.s.cell]; rfl
  have ra0 : W.cell? ⟨w.heap.size + 2, 0, none⟩ = some (.slice none 0 0) := by rw [HW.out.r0.cell]; rfl
  have raf0 := HW.out.r0.frozen 0
  have ra1 : W.cell? ⟨w.heap.size + 2, 1, none⟩ = some (.slice none 0 0) := by rw [HW.out.r0.cell]; rfl
  have raf1 := HW.out.r0.frozen 1
  have rb0 : W.cell? ⟨w.heap.size + 3, 0, none⟩ = some (.int .i64 0) := by rw [HW.out.r1.cell]; rfl
  have rbf0 := HW.out.r1.frozen 0
  have rb1 : W.cell? ⟨w.heap.size + 3, 1, none⟩ = some (.bool false) := by rw [HW.out.r1.cell]; rfl
  have rbf1 := HW.out.r1.frozen 1
  have rb2 : W.cell? ⟨w.heap.size + 3, 2, none⟩ = some (.slice none 0 0) := by rw [HW.out.r1.cell]; rfl
  have rbf2 := HW.out.r1.frozen 2
  have rb3 : W.cell? ⟨w.heap.size + 3, 3, none⟩ = some (.bool false) := by rw [HW.out.r1.cell]; rfl
  have rbf3 := HW.out.r1.frozen 3
  go_quiet (fail)
  have HR : Hid (specM (l0, l1) s = ((l0, l1), ⟨(l0.length : Int), false, [], false⟩, true)) := by show _ = _; simp [specM, spC, hwh, hwhat]
  have HSIX : Hid (Blk (((((((W.drewN nq).setCell ⟨w.heap.size + 1 + 1, 0, none⟩ (.slice A0 l0.length c0)).setCell ⟨w.heap.size + 1 + 1, 1, none⟩ (.slice A1 l1.length c1)).setCell ⟨w.heap.size + 1 + 1 + 1, 0, none⟩ (.int .i64 ((l0.length : Nat) : Int))).setCell ⟨w.heap.size + 1 + 1 + 1, 1, none⟩ (.bool false)).setCell ⟨w.heap.size + 1 + 1 + 1, 2, none⟩ (.slice none 0 0)).setCell ⟨w.heap.size + 1 + 1 + 1, 3, none⟩ (.bool false)) (w.heap.size + 1 + 1) 49 #[.slice A0 l0.length c0, .slice A1 l1.length c1] ∧ Blk (((((((W.drewN nq).setCell ⟨w.heap.size + 1 + 1, 0, none⟩ (.slice A0 l0.length c0)).setCell ⟨w.heap.size + 1 + 1, 1, none⟩ (.slice A1 l1.length c1)).setCell ⟨w.heap.size + 1 + 1 + 1, 0, none⟩ (.int .i64 ((l0.length : Nat) : Int))).setCell ⟨w.heap.size + 1 + 1 + 1, 1, none⟩ (.bool false)).setCell ⟨w.heap.size + 1 + 1 + 1, 2, none⟩ (.slice none 0 0)).setCell ⟨w.heap.size + 1 + 1 + 1, 3, none⟩ (.bool false)) (w.heap.size + 1 + 1 + 1) 31 #[.int .i64 ((l0.length : Nat) : Int), .bool false, .slice none 0 0, .bool false] ∧ Chg (fun i => i = w.heap.size + 1 + 1 ∨ i = w.heap.size + 1 + 1 + 1) (W.drewN nq) (((((((W.drewN nq).setCell ⟨w.heap.size + 1 + 1, 0, none⟩ (.slice A0 l0.length c0)).setCell ⟨w.heap.size + 1 + 1, 1, none⟩ (.slice A1 l1.length c1)).setCell ⟨w.heap.size + 1 + 1 + 1, 0, none⟩ (.int .i64 ((l0.length : Nat) : Int))).setCell ⟨w.heap.size + 1 + 1 + 1, 1, none⟩ (.bool false)).setCell ⟨w.heap.size + 1 + 1 + 1, 2, none⟩ (.slice none 0 0)).setCell ⟨w.heap.size + 1 + 1 + 1, 3, none⟩ (.bool false))) := sp_six (g := w.heap.size) (E := W.drewN nq) HW.out.r0 HW.out.r1 (.slice A0 l0.length c0) (.slice A1 l1.length c1) (.int .i64 ((l0.length : Nat) : Int)) (.bool false) (.slice none 0 0) (.bool false)
  go_wp2
  generalize (((((((W.drewN nq).setCell ⟨w.heap.size + 1 + 1, 0, none⟩ (.slice A0 l0.length c0)).setCell ⟨w.heap.size + 1 + 1, 1, none⟩ (.slice A1 l1.length c1)).setCell ⟨w.heap.size + 1 + 1 + 1, 0, none⟩ (.int .i64 ((l0.length : Nat) : Int))).setCell ⟨w.heap.size + 1 + 1 + 1, 1, none⟩ (.bool false)).setCell ⟨w.heap.size + 1 + 1 + 1, 2, none⟩ (.slice none 0 0)).setCell ⟨w.heap.size + 1 + 1 + 1, 3, none⟩ (.bool false)) = w9 at *
  have z0 : w9.cell? ⟨w.heap.size + 1 + 1, 0, none⟩ = some (.slice A0 l0.length c0) := by rw [HSIX.out.1.cell]; rfl
  have z1 : w9.cell? ⟨w.heap.size + 1 + 1, 1, none⟩ = some (.slice A1 l1.length c1) := by rw [HSIX.out.1.cell]; rfl
  have y0 : w9.cell? ⟨w.heap.size + 1 + 1 + 1, 0, none⟩ = some (.int .i64 ((l0.length : Nat) : Int)) := by rw [HSIX.out.2.1.cell]; rfl
  have y1 : w9.cell? ⟨w.heap.size + 1 + 1 + 1, 1, none⟩ = some (.bool false) := by rw [HSIX.out.2.1.cell]; rfl
  have y2 : w9.cell? ⟨w.heap.size + 1 + 1 + 1, 2, none⟩ = some (.slice none 0 0) := by rw [HSIX.out.2.1.cell]; rfl
  have y3 : w9.cell? ⟨w.heap.size + 1 + 1 + 1, 3, none⟩ = some (.bool false) := by rw [HSIX.out.2.1.cell]; rfl
  refine bodyPost_ret (v := .tuple #[.agg #[.slice A0 l0.length c0, .slice A1 l1.length c1], .agg #[.int .i64 ((l0.length : Nat) : Int), .bool false, .slice none 0 0, .bool false], .bool true]) ?_ rfl ?_
  · simp [results, Try.f20, go_sem, z0, z1, y0, y1, y2, y3]
  · exact sp_fin (E := W.drewN nq) (x := (l0, l1)) (ans := ⟨(l0.length : Int), false, [], false⟩) (okb := true) HR.out HW.out.r0 HW.out.r1 (TwoIn.notR (HT.out.keep (Nat.le_refl _) (fun _ _ _ => rfl))) rfl SliceIs.none_ (below_q HW.out.bel _) HSIX.out.2.2

set_option linter.unusedVariables false in
set_option linter.unusedSimpArgs false in
set_option maxHeartbeats 2000000 in
set_option maxRecDepth 100000 in
theorem spm0_4 (Kx : Nat → Prop) (A0 A1 A : Option Addr) (c0 c1 c : Nat) (l0 l1 : List (Int × Int)) (s : StepD) (w : World) (hz0 : l0.length ≤ 274877906944) (hz1 : l1.length ≤ 274877906944) (h : TwoIn w Kx A0 A1 c0 c1 (l0, l1)) (hwh : s.which = 0) (hwhat : s.what = 4) :
    Calls Try.prog 20 #[.agg #[.slice A0 l0.length c0, .slice A1 l1.length c1], .agg (s.cells (.slice A s.list.length c))] w (SpecM Kx (specM (l0, l1) s) w) := by
  have hW := spW w (.slice A0 l0.length c0) (.slice A1 l1.length c1) (s.cells (.slice A s.list.length c))
  have hT : TwoIn _ (Lo Kx w.heap.size) A0 A1 c0 c1 (l0, l1) := h.lo.keep hW.bel.size (fun p hp _ => hW.bel.cell hp)
  clear h
  unfold StepD.cells at *
  rw [hwhat, hwh] at hW hT ⊢
  have HW := hide hW
  have HT := hide hT
  clear hW hT
  go_enter Try.func20, Try.ntmps20
  go_wp2_with fail
  generalize (((w.alloc (.cells #[.slice A0 l0.length c0, .slice A1 l1.length c1] 49)).alloc (.cells #[.int .i64 4, .int .i64 0, .int .i64 s.index, .int .i64 s.bit, .int .i64 s.n, .int .i64 s.key, .int .i64 s.value, .slice A s.list.length c] 34)).alloc (.cells #[.slice none 0 0, .slice none 0 0] 49)).alloc (.cells #[.int .i64 0, .bool false, .slice none 0 0, .bool false] 31) = W at *
  have m0 : W.cell? ⟨w.heap.size, 0, none⟩ = some (.slice A0 l0.length c0) := by rw [HW.out.m.cell]; rfl
  have m1 : W.cell? ⟨w.heap.size, 1, none⟩ = some (.slice A1 l1.length c1) := by rw [HW.out.m.cell]; rfl
  have s0 : W.cell? ⟨w.heap.size + 1, 0, none⟩ = some (.int .i64 4) := by rw [HW.out.s.cell]; rfl
  have s1 : W.cell? ⟨w.heap.size + 1, 1, none⟩ = some (.int .i64 0) := by rw [HW.out.s.cell]; rfl
  have s5 : W.cell? ⟨w.heap.size + 1, 5, none⟩ = some (.int .i64 s.key) := by rw [HW.out.s.cell]; rfl
  have s6 : W.cell? ⟨w.heap.size + 1, 6, none⟩ = some (.int .i64 s.value) := by rw [HW.out.s.cell]; rfl
  have ra0 : W.cell? ⟨w.heap.size + 2, 0, none⟩ = some (.slice none 0 0) := by rw [HW.out.r0.cell]; rfl
  have raf0 := HW.out.r0.frozen 0
  have ra1 : W.cell? ⟨w.heap.size + 2, 1, none⟩ = some (.slice none 0 0) := by rw [HW.out.r0.cell]; rfl
  have raf1 := HW.out.r0.frozen 1
  have rb0 : W.cell? ⟨w.heap.size + 3, 0, none⟩ = some (.int .i64 0) := by rw [HW.out.r1.cell]; rfl
  have rbf0 := HW.out.r1.frozen 0
  have rb1 : W.cell? ⟨w.heap.size + 3, 1, none⟩ = some (.bool false) := by rw [HW.out.r1.cell]; rfl
  have rbf1 := HW.out.r1.frozen 1
  have rb2 : W.cell? ⟨w.heap.size + 3, 2, none⟩ = some (.slice none 0 0) := by rw [HW.out.r1.cell]; rfl
  have rbf2 := HW.out.r1.frozen 2
  have rb3 : W.cell? ⟨w.heap.size + 3, 3, none⟩ = some (.bool false) := by rw [HW.out.r1.cell]; rfl
  have rbf3 := HW.out.r1.frozen 3
  go_quiet (fail)
  have HR : Hid (specM (l0, l1) s = ((l0, l0), zeroAns, true)) := by show _ = _; simp [specM, spC, hwh, hwhat]
  have HKP : Hid (∀ X, Chg (fun i => i = w.heap.size) W X → X.cell? ⟨w.heap.size + 1, 1, none⟩ = some (.int .i64 0) ∧ X.cell? ⟨w.heap.size + 1, 5, none⟩ = some (.int .i64 s.key) ∧ X.cell? ⟨w.heap.size + 1, 6, none⟩ = some (.int .i64 s.value)) := fun X hX => by
    have hgl : w.heap.size + 1 < W.heap.size := by have := HW.out.size; omega
    exact ⟨(hX.cell (p := ⟨w.heap.size + 1, 1, none⟩) hgl (fun h => by have h9 : w.heap.size + 1 = w.heap.size := h; omega)).trans s1, (hX.cell (p := ⟨w.heap.size + 1, 5, none⟩) hgl (fun h => by have h9 : w.heap.size + 1 = w.heap.size := h; omega)).trans s5, (hX.cell (p := ⟨w.heap.size + 1, 6, none⟩) hgl (fun h => by have h9 : w.heap.size + 1 = w.heap.size := h; omega)).trans s6⟩
  have HRD : Hid (∀ X, Gr W X → Reads X (Lo Kx w.heap.size) 2 A0 l0.length (pfl l0)) := fun X hX => (HT.out.p0.keep hX.size (fun p hp hk => hX.cell hp)).reads
  have hwr : IntKind.i64.wrap 1 = 1 := rfl
  obtain ⟨i9, hi9, h90, h91, h92⟩ := info_parts info91
  go_wp2_with fail
  go_region_held3 (fun w' => w'.cell? ⟨w.heap.size + 1, 1, none⟩ = some (.int .i64 0) ∧ w'.cell? ⟨w.heap.size + 1, 5, none⟩ = some (.int .i64 s.key) ∧ w'.cell? ⟨w.heap.size + 1, 6, none⟩ = some (.int .i64 s.value))
    (exact HKP.out _ (by repeat (first | (with_reducible exact Chg.refl _ _) | (with_reducible exact HC3.out) | (with_reducible refine Chg.drewN ?_ _) | (with_reducible refine Chg.drew ?_) | (with_reducible refine Chg.alloc ?_ _) | (with_reducible refine Chg.setCell (S := fun i => i = w.heap.size) ?_ (fun _ => rfl) _))))
    ((refine step_append0 (by rfl) (.tmp 95) (.tmp 96) 48 (by rfl) W.heap.size 91 i9 _ 2 16 Try.underlying48 hi9 h90 h91 h92 rfl (by decide) W.heap.size (by rfl) (by exact Blk.new _ _ _) (Nat.le_refl _) A0 l0.length c0 (pfl l0) (Lo Kx w.heap.size) (by rfl) (HRD.out _ (by repeat (first | (with_reducible exact Chg.refl _ _) | (with_reducible refine Chg.drewN ?_ _) | (with_reducible refine Chg.drew ?_) | (with_reducible refine Chg.alloc ?_ _)))) (pfl_one l0) HT.out.p0.nil_ (by unfold maxLen; omega) (by omega) ?_
      intro v' w3 ho hg3
      obtain ⟨A', c', rfl, _⟩ := own_reads ho
      have hp3 := pairs_own ho
      have hgW : Gr W w3 := Chg.trans (by repeat (first | (with_reducible exact Chg.refl _ _) | (with_reducible refine Chg.drewN ?_ _) | (with_reducible refine Chg.drew ?_) | (with_reducible refine Chg.alloc ?_ _))) hg3 (fun _ _ h => h)
      have hbW := Chg.toBelow hgW
      have HC3 : Hid (Chg (fun i => i = w.heap.size) W w3) := Chg.ofBelow hbW _
      have HE3 : Hid (SpE w w3 (.slice A0 l0.length c0) (.slice A1 l1.length c1)) := HW.out.e.below (hbW.mono HW.out.e.size)
      have HO3 : Hid (PairsIn w3 (NotG Kx w.heap.size) A0 l0.length c0 l0) := (HT.out.notG.below hbW).p0
      have HN3 : Hid (PairsIn w3 (NotG Kx w.heap.size) A' l0.length c' l0) := hp3.more (fun i _ hk => Or.inr (by have h9 : W.heap.size ≤ i := hk; have := HW.out.size; omega))
      have g0 : w3.cell? ⟨w.heap.size, 1, none⟩ = some (.slice A1 l1.length c1) := by rw [HE3.out.m.cell]; rfl
      have f0 : w3.frozen? ⟨w.heap.size, 1, none⟩ = false := HE3.out.m.frozen 1
      clear ho hp3 hg3 hgW hbW))
  have HE4 : Hid (SpE w (w3.setCell ⟨w.heap.size, 1, none⟩ (.slice A' l0.length c')) (.slice A0 l0.length c0) ((.slice A' l0.length c'))) := HE3.out.set1 _
  have HP40 : Hid (PairsIn (w3.setCell ⟨w.heap.size, 1, none⟩ (.slice A' l0.length c')) (NotG Kx w.heap.size) _ _ _ _) := (HO3.out.setg _ _)
  have HP41 : Hid (PairsIn (w3.setCell ⟨w.heap.size, 1, none⟩ (.slice A' l0.length c')) (NotG Kx w.heap.size) _ _ _ _) := (HN3.out.setg _ _)
  generalize (w3.setCell ⟨w.heap.size, 1, none⟩ (.slice A' l0.length c')) = w4 at *
  have m0 : w4.cell? ⟨w.heap.size, 0, none⟩ = some (.slice A0 l0.length c0) := by rw [HE4.out.m.cell]; rfl
  have m1 : w4.cell? ⟨w.heap.size, 1, none⟩ = some ((.slice A' l0.length c')) := by rw [HE4.out.m.cell]; rfl
  have ra0 : w4.cell? ⟨w.heap.size + 2, 0, none⟩ = some (.slice none 0 0) := by rw [HE4.out.r0.cell]; rfl
  have raf0 := HE4.out.r0.frozen 0
  have ra1 : w4.cell? ⟨w.heap.size + 2, 1, none⟩ = some (.slice none 0 0) := by rw [HE4.out.r0.cell]; rfl
  have raf1 := HE4.out.r0.frozen 1
  have rb0 : w4.cell? ⟨w.heap.size + 3, 0, none⟩ = some (.int .i64 0) := by rw [HE4.out.r1.cell]; rfl
  have rbf0 := HE4.out.r1.frozen 0
  have rb1 : w4.cell? ⟨w.heap.size + 3, 1, none⟩ = some (.bool false) := by rw [HE4.out.r1.cell]; rfl
  have rbf1 := HE4.out.r1.frozen 1
  have rb2 : w4.cell? ⟨w.heap.size + 3, 2, none⟩ = some (.slice none 0 0) := by rw [HE4.out.r1.cell]; rfl
  have rbf2 := HE4.out.r1.frozen 2
  have rb3 : w4.cell? ⟨w.heap.size + 3, 3, none⟩ = some (.bool false) := by rw [HE4.out.r1.cell]; rfl
  have rbf3 := HE4.out.r1.frozen 3
  have HSIX : Hid (Blk (((((((w4).setCell ⟨w.heap.size + 1 + 1, 0, none⟩ (.slice A0 l0.length c0)).setCell ⟨w.heap.size + 1 + 1, 1, none⟩ ((.slice A' l0.length c'))).setCell ⟨w.heap.size + 1 + 1 + 1, 0, none⟩ (.int .i64 0)).setCell ⟨w.heap.size + 1 + 1 + 1, 1, none⟩ (.bool false)).setCell ⟨w.heap.size + 1 + 1 + 1, 2, none⟩ (.slice none 0 0)).setCell ⟨w.heap.size + 1 + 1 + 1, 3, none⟩ (.bool false)) (w.heap.size + 1 + 1) 49 #[.slice A0 l0.length c0, (.slice A' l0.length c')] ∧ Blk (((((((w4).setCell ⟨w.heap.size + 1 + 1, 0, none⟩ (.slice A0 l0.length c0)).setCell ⟨w.heap.size + 1 + 1, 1, none⟩ ((.slice A' l0.length c'))).setCell ⟨w.heap.size + 1 + 1 + 1, 0, none⟩ (.int .i64 0)).setCell ⟨w.heap.size + 1 + 1 + 1, 1, none⟩ (.bool false)).setCell ⟨w.heap.size + 1 + 1 + 1, 2, none⟩ (.slice none 0 0)).setCell ⟨w.heap.size + 1 + 1 + 1, 3, none⟩ (.bool false)) (w.heap.size + 1 + 1 + 1) 31 #[.int .i64 0, .bool false, .slice none 0 0, .bool false] ∧ Chg (fun i => i = w.heap.size + 1 + 1 ∨ i = w.heap.size + 1 + 1 + 1) (w4) (((((((w4).setCell ⟨w.heap.size + 1 + 1, 0, none⟩ (.slice A0 l0.length c0)).setCell ⟨w.heap.size + 1 + 1, 1, none⟩ ((.slice A' l0.length c'))).setCell ⟨w.heap.size + 1 + 1 + 1, 0, none⟩ (.int .i64 0)).setCell ⟨w.heap.size + 1 + 1 + 1, 1, none⟩ (.bool false)).setCell ⟨w.heap.size + 1 + 1 + 1, 2, none⟩ (.slice none 0 0)).setCell ⟨w.heap.size + 1 + 1 + 1, 3, none⟩ (.bool false))) := sp_six (g := w.heap.size) (E := w4) HE4.out.r0 HE4.out.r1 (.slice A0 l0.length c0) ((.slice A' l0.length c')) (.int .i64 0) (.bool false) (.slice none 0 0) (.bool false)
  go_wp2
  generalize (((((((w4).setCell ⟨w.heap.size + 1 + 1, 0, none⟩ (.slice A0 l0.length c0)).setCell ⟨w.heap.size + 1 + 1, 1, none⟩ ((.slice A' l0.length c'))).setCell ⟨w.heap.size + 1 + 1 + 1, 0, none⟩ (.int .i64 0)).setCell ⟨w.heap.size + 1 + 1 + 1, 1, none⟩ (.bool false)).setCell ⟨w.heap.size + 1 + 1 + 1, 2, none⟩ (.slice none 0 0)).setCell ⟨w.heap.size + 1 + 1 + 1, 3, none⟩ (.bool false)) = w9 at *
  have z0 : w9.cell? ⟨w.heap.size + 1 + 1, 0, none⟩ = some (.slice A0 l0.length c0) := by rw [HSIX.out.1.cell]; rfl
  have z1 : w9.cell? ⟨w.heap.size + 1 + 1, 1, none⟩ = some ((.slice A' l0.length c')) := by rw [HSIX.out.1.cell]; rfl
  have y0 : w9.cell? ⟨w.heap.size + 1 + 1 + 1, 0, none⟩ = some (.int .i64 0) := by rw [HSIX.out.2.1.cell]; rfl
  have y1 : w9.cell? ⟨w.heap.size + 1 + 1 + 1, 1, none⟩ = some (.bool false) := by rw [HSIX.out.2.1.cell]; rfl
  have y2 : w9.cell? ⟨w.heap.size + 1 + 1 + 1, 2, none⟩ = some (.slice none 0 0) := by rw [HSIX.out.2.1.cell]; rfl
  have y3 : w9.cell? ⟨w.heap.size + 1 + 1 + 1, 3, none⟩ = some (.bool false) := by rw [HSIX.out.2.1.cell]; rfl
  refine bodyPost_ret (v := .tuple #[.agg #[.slice A0 l0.length c0, (.slice A' l0.length c')], .agg #[.int .i64 0, .bool false, .slice none 0 0, .bool false], .bool true]) ?_ rfl ?_
  · simp [results, Try.f20, go_sem, z0, z1, y0, y1, y2, y3]
  · exact sp_fin (E := w4) (x := (l0, l0)) (ans := zeroAns) (okb := true) HR.out HE4.out.r0 HE4.out.r1 ⟨HP40.out.notR, HP41.out.notR⟩ rfl SliceIs.none_ HE4.out.bel HSIX.out.2.2

set_option linter.unusedVariables false in
set_option linter.unusedSimpArgs false in
set_option maxHeartbeats 2000000 in
set_option maxRecDepth 100000 in
theorem spm0_5 (Kx : Nat → Prop) (A0 A1 A : Option Addr) (c0 c1 c : Nat) (l0 l1 : List (Int × Int)) (s : StepD) (w : World) (hz0 : l0.length ≤ 274877906944) (hz1 : l1.length ≤ 274877906944) (h : TwoIn w Kx A0 A1 c0 c1 (l0, l1)) (hwh : s.which = 0) (hwhat : s.what = 5) :
    Calls Try.prog 20 #[.agg #[.slice A0 l0.length c0, .slice A1 l1.length c1], .agg (s.cells (.slice A s.list.length c))] w (SpecM Kx (specM (l0, l1) s) w) := by
  have hW := spW w (.slice A0 l0.length c0) (.slice A1 l1.length c1) (s.cells (.slice A s.list.length c))
  have hT : TwoIn _ (Lo Kx w.heap.size) A0 A1 c0 c1 (l0, l1) := h.lo.keep hW.bel.size (fun p hp _ => hW.bel.cell hp)
  clear h
  unfold StepD.cells at *
  rw [hwhat, hwh] at hW hT ⊢
  have HW := hide hW
  have HT := hide hT
  clear hW hT
  go_enter Try.func20, Try.ntmps20
  go_wp2_with fail
  generalize (((w.alloc (.cells #[.slice A0 l0.length c0, .slice A1 l1.length c1] 49)).alloc (.cells #[.int .i64 5, .int .i64 0, .int .i64 s.index, .int .i64 s.bit, .int .i64 s.n, .int .i64 s.key, .int .i64 s.value, .slice A s.list.length c] 34)).alloc (.cells #[.slice none 0 0, .slice none 0 0] 49)).alloc (.cells #[.int .i64 0, .bool false, .slice none 0 0, .bool false] 31) = W at *
  have m0 : W.cell? ⟨w.heap.size, 0, none⟩ = some (.slice A0 l0.length c0) := by rw [HW.out.m.cell]; rfl
  have m1 : W.cell? ⟨w.heap.size, 1, none⟩ = some (.slice A1 l1.length c1) := by rw [HW.out.m.cell]; rfl
  have s0 : W.cell? ⟨w.heap.size + 1, 0, none⟩ = some (.int .i64 5) := by rw [HW.out.s.cell]; rfl
  have s1 : W.cell? ⟨w.heap.size + 1, 1, none⟩ = some (.int .i64 0) := by rw [HW.out.s.cell]; rfl
  have s5 : W.cell? ⟨w.heap.size + 1, 5, none⟩ = some (.int .i64 s.key) := by rw [HW.out.s.cell]; rfl
  have s6 : W.cell? ⟨w.heap.size + 1, 6, none⟩ = some (.int .i64 s.value) := by rw [HW.out.s.cell]; rfl
  have ra0 : W.cell? ⟨w.heap.size + 2, 0, none⟩ = some (.slice none 0 0) := by rw [HW.out.r0.cell]; rfl
  have raf0 := HW.out.r0.frozen 0
  have ra1 : W.cell? ⟨w.heap.size + 2, 1, none⟩ = some (.slice none 0 0) := by rw [HW.out.r0.cell]; rfl
  have raf1 := HW.out.r0.frozen 1
  have rb0 : W.cell? ⟨w.heap.size + 3, 0, none⟩ = some (.int .i64 0) := by rw [HW.out.r1.cell]; rfl
  have rbf0 := HW.out.r1.frozen 0
  have rb1 : W.cell? ⟨w.heap.size + 3, 1, none⟩ = some (.bool false) := by rw [HW.out.r1.cell]; rfl
  have rbf1 := HW.out.r1.frozen 1
  have rb2 : W.cell? ⟨w.heap.size + 3, 2, none⟩ = some (.slice none 0 0) := by rw [HW.out.r1.cell]; rfl
  have rbf2 := HW.out.r1.frozen 2
  have rb3 : W.cell? ⟨w.heap.size + 3, 3, none⟩ = some (.bool false) := by rw [HW.out.r1.cell]; rfl
  have rbf3 := HW.out.r1.frozen 3
  go_quiet (fail)
  have HR : Hid (specM (l0, l1) s = ((l0, l1), ⟨0, eqA l0 l1, [], false⟩, true)) := by show _ = _; simp [specM, spC, hwh, hwhat]
  have HKP : Hid (∀ X, Chg (fun i => i = w.heap.size + 1 + 1 ∨ i = w.heap.size + 1 + 1 + 1) W X → X.cell? ⟨w.heap.size, 0, none⟩ = some (.slice A0 l0.length c0) ∧ X.cell? ⟨w.heap.size, 1, none⟩ = some (.slice A1 l1.length c1) ∧ TwoIn X (NotR Kx w.heap.size) A0 A1 c0 c1 (l0, l1)) := fun X hX => by
    have hgl : w.heap.size < W.heap.size := by have := HW.out.size; omega
    exact ⟨(hX.cell (p := ⟨w.heap.size, 0, none⟩) hgl (fun h => by have h9 : w.heap.size = w.heap.size + 1 + 1 ∨ w.heap.size = w.heap.size + 1 + 1 + 1 := h; omega)).trans m0, (hX.cell (p := ⟨w.heap.size, 1, none⟩) hgl (fun h => by have h9 : w.heap.size = w.heap.size + 1 + 1 ∨ w.heap.size = w.heap.size + 1 + 1 + 1 := h; omega)).trans m1, (HT.out.notR).keep hX.size (fun p hp hn => hX.cell hp (fun h => h.elim hn.ne0 hn.ne1))⟩
  go_wp2_with fail
  go_region_held3 (fun w' => w'.cell? ⟨w.heap.size, 0, none⟩ = some (.slice A0 l0.length c0) ∧ w'.cell? ⟨w.heap.size, 1, none⟩ = some (.slice A1 l1.length c1))
    (exact ⟨(HKP.out _ (by repeat (first | (with_reducible exact Chg.refl _ _) | (with_reducible exact HC3.out) | (with_reducible refine Chg.drewN ?_ _) | (with_reducible refine Chg.drew ?_) | (with_reducible refine Chg.alloc ?_ _) | ((with_reducible refine Chg.setCell (S := fun i => i = w.heap.size + 1 + 1 ∨ i = w.heap.size + 1 + 1 + 1) ?_ ?_ _); rotate_left; first | exact fun _ => Or.inl rfl | exact fun _ => Or.inr rfl)))).1, (HKP.out _ (by repeat (first | (with_reducible exact Chg.refl _ _) | (with_reducible exact HC3.out) | (with_reducible refine Chg.drewN ?_ _) | (with_reducible refine Chg.drew ?_) | (with_reducible refine Chg.alloc ?_ _) | ((with_reducible refine Chg.setCell (S := fun i => i = w.heap.size + 1 + 1 ∨ i = w.heap.size + 1 + 1 + 1) ?_ ?_ _); rotate_left; first | exact fun _ => Or.inl rfl | exact fun _ => Or.inr rfl)))).2.1⟩)
    ((go_at_call 65
      refine (equal_spec _ _ A0 A1 l0.length l1.length c0 c1 l0 l1 _ (HKP.out _ (by repeat (first | (with_reducible exact Chg.refl _ _) | (with_reducible exact HC3.out) | (with_reducible refine Chg.drewN ?_ _) | (with_reducible refine Chg.drew ?_) | (with_reducible refine Chg.alloc ?_ _) | ((with_reducible refine Chg.setCell (S := fun i => i = w.heap.size + 1 + 1 ∨ i = w.heap.size + 1 + 1 + 1) ?_ ?_ _); rotate_left; first | exact fun _ => Or.inl rfl | exact fun _ => Or.inr rfl)))).2.2.p0 (HKP.out _ (by repeat (first | (with_reducible exact Chg.refl _ _) | (with_reducible exact HC3.out) | (with_reducible refine Chg.drewN ?_ _) | (with_reducible refine Chg.drew ?_) | (with_reducible refine Chg.alloc ?_ _) | ((with_reducible refine Chg.setCell (S := fun i => i = w.heap.size + 1 + 1 ∨ i = w.heap.size + 1 + 1 + 1) ?_ ?_ _); rotate_left; first | exact fun _ => Or.inl rfl | exact fun _ => Or.inr rfl)))).2.2.p1 (by omega) (by omega)).mono ?_
      rintro e w3 ⟨rfl, hb3⟩
      have HC3 : Hid (Chg (fun i => i = w.heap.size + 1 + 1 ∨ i = w.heap.size + 1 + 1 + 1) W w3) := Chg.trans (by repeat (first | (with_reducible exact Chg.refl _ _) | (with_reducible exact HC3.out) | (with_reducible refine Chg.drewN ?_ _) | (with_reducible refine Chg.drew ?_) | (with_reducible refine Chg.alloc ?_ _) | ((with_reducible refine Chg.setCell (S := fun i => i = w.heap.size + 1 + 1 ∨ i = w.heap.size + 1 + 1 + 1) ?_ ?_ _); rotate_left; first | exact fun _ => Or.inl rfl | exact fun _ => Or.inr rfl))) (Chg.ofBelow hb3 (fun _ => False)) (fun _ _ h => h.elim)
      have hbW : Below W.heap.size W w3 := ⟨hb3.os, hb3.tape, hb3.output, hb3.size, hb3.block⟩
      have hr0 := HW.out.r0.below hbW HW.out.r0.lt
      have hr1 := HW.out.r1.below hbW HW.out.r1.lt
      have ra0 : w3.cell? ⟨w.heap.size + 1 + 1, 0, none⟩ = some (.slice none 0 0) := by rw [hr0.cell]; rfl
      have raf0 : w3.frozen? ⟨w.heap.size + 1 + 1, 0, none⟩ = false := hr0.frozen 0
      have ra1 : w3.cell? ⟨w.heap.size + 1 + 1, 1, none⟩ = some (.slice none 0 0) := by rw [hr0.cell]; rfl
      have raf1 : w3.frozen? ⟨w.heap.size + 1 + 1, 1, none⟩ = false := hr0.frozen 1
      have rb0 : w3.cell? ⟨w.heap.size + 1 + 1 + 1, 0, none⟩ = some (.int .i64 0) := by rw [hr1.cell]; rfl
      have rbf0 : w3.frozen? ⟨w.heap.size + 1 + 1 + 1, 0, none⟩ = false := hr1.frozen 0
      have rb1 : w3.cell? ⟨w.heap.size + 1 + 1 + 1, 1, none⟩ = some (.bool false) := by rw [hr1.cell]; rfl
      have rbf1 : w3.frozen? ⟨w.heap.size + 1 + 1 + 1, 1, none⟩ = false := hr1.frozen 1
      have rb2 : w3.cell? ⟨w.heap.size + 1 + 1 + 1, 2, none⟩ = some (.slice none 0 0) := by rw [hr1.cell]; rfl
      have rbf2 : w3.frozen? ⟨w.heap.size + 1 + 1 + 1, 2, none⟩ = false := hr1.frozen 2
      have rb3 : w3.cell? ⟨w.heap.size + 1 + 1 + 1, 3, none⟩ = some (.bool false) := by rw [hr1.cell]; rfl
      have rbf3 : w3.frozen? ⟨w.heap.size + 1 + 1 + 1, 3, none⟩ = false := hr1.frozen 3
      have HR0 := hide hr0
      have HR1 := hide hr1
      have HB3 : Hid (Below w.heap.size w w3) := HW.out.bel.trans (hbW.mono HW.out.bel.size)
      clear hr0 hr1 hb3 hbW))
  have HSIX : Hid (Blk (((((((w3).setCell ⟨w.heap.size + 1 + 1, 0, none⟩ (.slice A0 l0.length c0)).setCell ⟨w.heap.size + 1 + 1, 1, none⟩ (.slice A1 l1.length c1)).setCell ⟨w.heap.size + 1 + 1 + 1, 0, none⟩ (.int .i64 0)).setCell ⟨w.heap.size + 1 + 1 + 1, 1, none⟩ (.bool (eqA l0 l1))).setCell ⟨w.heap.size + 1 + 1 + 1, 2, none⟩ (.slice none 0 0)).setCell ⟨w.heap.size + 1 + 1 + 1, 3, none⟩ (.bool false)) (w.heap.size + 1 + 1) 49 #[.slice A0 l0.length c0, .slice A1 l1.length c1] ∧ Blk (((((((w3).setCell ⟨w.heap.size + 1 + 1, 0, none⟩ (.slice A0 l0.length c0)).setCell ⟨w.heap.size + 1 + 1, 1, none⟩ (.slice A1 l1.length c1)).setCell ⟨w.heap.size + 1 + 1 + 1, 0, none⟩ (.int .i64 0)).setCell ⟨w.heap.size + 1 + 1 + 1, 1, none⟩ (.bool (eqA l0 l1))).setCell ⟨w.heap.size + 1 + 1 + 1, 2, none⟩ (.slice none 0 0)).setCell ⟨w.heap.size + 1 + 1 + 1, 3, none⟩ (.bool false)) (w.heap.size + 1 + 1 + 1) 31 #[.int .i64 0, .bool (eqA l0 l1), .slice none 0 0, .bool false] ∧ Chg (fun i => i = w.heap.size + 1 + 1 ∨ i = w.heap.size + 1 + 1 + 1) (w3) (((((((w3).setCell ⟨w.heap.size + 1 + 1, 0, none⟩ (.slice A0 l0.length c0)).setCell ⟨w.heap.size + 1 + 1, 1, none⟩ (.slice A1 l1.length c1)).setCell ⟨w.heap.size + 1 + 1 + 1, 0, none⟩ (.int .i64 0)).setCell ⟨w.heap.size + 1 + 1 + 1, 1, none⟩ (.bool (eqA l0 l1))).setCell ⟨w.heap.size + 1 + 1 + 1, 2, none⟩ (.slice none 0 0)).setCell ⟨w.heap.size + 1 + 1 + 1, 3, none⟩ (.bool false))) := sp_six (g := w.heap.size) (E := w3) HR0.out HR1.out (.slice A0 l0.length c0) (.slice A1 l1.length c1) (.int .i64 0) (.bool (eqA l0 l1)) (.slice none 0 0) (.bool false)
  go_wp2
  generalize (((((((w3).setCell ⟨w.heap.size + 1 + 1, 0, none⟩ (.slice A0 l0.length c0)).setCell ⟨w.heap.size + 1 + 1, 1, none⟩ (.slice A1 l1.length c1)).setCell ⟨w.heap.size + 1 + 1 + 1, 0, none⟩ (.int .i64 0)).setCell ⟨w.heap.size + 1 + 1 + 1, 1, none⟩ (.bool (eqA l0 l1))).setCell ⟨w.heap.size + 1 + 1 + 1, 2, none⟩ (.slice none 0 0)).setCell ⟨w.heap.size + 1 + 1 + 1, 3, none⟩ (.bool false)) = w9 at *
  have z0 : w9.cell? ⟨w.heap.size + 1 + 1, 0, none⟩ = some (.slice A0 l0.length c0) := by rw [HSIX.out.1.cell]; rfl
  have z1 : w9.cell? ⟨w.heap.size + 1 + 1, 1, none⟩ = some (.slice A1 l1.length c1) := by rw [HSIX.out.1.cell]; rfl
  have y0 : w9.cell? ⟨w.heap.size + 1 + 1 + 1, 0, none⟩ = some (.int .i64 0) := by rw [HSIX.out.2.1.cell]; rfl
  have y1 : w9.cell? ⟨w.heap.size + 1 + 1 + 1, 1, none⟩ = some (.bool (eqA l0 l1)) := by rw [HSIX.out.2.1.cell]; rfl
  have y2 : w9.cell? ⟨w.heap.size + 1 + 1 + 1, 2, none⟩ = some (.slice none 0 0) := by rw [HSIX.out.2.1.cell]; rfl
  have y3 : w9.cell? ⟨w.heap.size + 1 + 1 + 1, 3, none⟩ = some (.bool false) := by rw [HSIX.out.2.1.cell]; rfl
  refine bodyPost_ret (v := .tuple #[.agg #[.slice A0 l0.length c0, .slice A1 l1.length c1], .agg #[.int .i64 0, .bool (eqA l0 l1), .slice none 0 0, .bool false], .bool true]) ?_ rfl ?_
  · simp [results, Try.f20, go_sem, z0, z1, y0, y1, y2, y3]
  · exact sp_fin (E := w3) (x := (l0, l1)) (ans := ⟨0, eqA l0 l1, [], false⟩) (okb := true) HR.out HR0.out HR1.out (HKP.out _ HC3.out).2.2 rfl SliceIs.none_ HB3.out HSIX.out.2.2

set_option linter.unusedVariables false in
set_option linter.unusedSimpArgs false in
set_option maxHeartbeats 2000000 in
set_option maxRecDepth 100000 in
theorem spm0_8 (Kx : Nat → Prop) (A0 A1 A : Option Addr) (c0 c1 c : Nat) (l0 l1 : List (Int × Int)) (s : StepD) (w : World) (hz0 : l0.length ≤ 274877906944) (hz1 : l1.length ≤ 274877906944) (h : TwoIn w Kx A0 A1 c0 c1 (l0, l1)) (hwh : s.which = 0) (hwhat : s.what = 8) :
    Calls Try.prog 20 #[.agg #[.slice A0 l0.length c0, .slice A1 l1.length c1], .agg (s.cells (.slice A s.list.length c))] w (SpecM Kx (specM (l0, l1) s) w) := by
  have hW := spW w (.slice A0 l0.length c0) (.slice A1 l1.length c1) (s.cells (.slice A s.list.length c))
  have hT : TwoIn _ (Lo Kx w.heap.size) A0 A1 c0 c1 (l0, l1) := h.lo.keep hW.bel.size (fun p hp _ => hW.bel.cell hp)
  clear h
  unfold StepD.cells at *
  rw [hwhat, hwh] at hW hT ⊢
  have HW := hide hW
  have HT := hide hT
  clear hW hT
  go_enter Try.func20, Try.ntmps20
  go_wp2_with fail
  generalize (((w.alloc (.cells #[.slice A0 l0.length c0, .slice A1 l1.length c1] 49)).alloc (.cells #[.int .i64 8, .int .i64 0, .int .i64 s.index, .int .i64 s.bit, .int .i64 s.n, .int .i64 s.key, .int .i64 s.value, .slice A s.list.length c] 34)).alloc (.cells #[.slice none 0 0, .slice none 0 0] 49)).alloc (.cells #[.int .i64 0, .bool false, .slice none 0 0, .bool false] 31) = W at *
  have m0 : W.cell? ⟨w.heap.size, 0, none⟩ = some (.slice A0 l0.length c0) := by rw [HW.out.m.cell]; rfl
  have m1 : W.cell? ⟨w.heap.size, 1, none⟩ = some (.slice A1 l1.length c1) := by rw [HW.out.m.cell]; rfl
  have s0 : W.cell? ⟨w.heap.size + 1, 0, none⟩ = some (.int .i64 8) := by rw [HW.out.s.cell]; rfl
  have s1 : W.cell? ⟨w.heap.size + 1, 1, none⟩ = some (.int .i64 0) := by rw [HW.out.s.cell]; rfl
  have s5 : W.cell? ⟨w.heap.size + 1, 5, none⟩ = some (.int .i64 s.key) := by rw [HW.out.s.cell]; rfl
  have s6 : W.cell? ⟨w.heap.size + 1, 6, none⟩ = some (.int .i64 s.value) := by rw [HW.out.s.cell]; rfl
  have ra0 : W.cell? ⟨w.heap.size + 2, 0, none⟩ = some (.slice none 0 0) := by rw [HW.out.r0.cell]; rfl
  have raf0 := HW.out.r0.frozen 0
  have ra1 : W.cell? ⟨w.heap.size + 2, 1, none⟩ = some (.slice none 0 0) := by rw [HW.out.r0.cell]; rfl
  have raf1 := HW.out.r0.frozen 1
  have rb0 : W.cell? ⟨w.heap.size + 3, 0, none⟩ = some (.int .i64 0) := by rw [HW.out.r1.cell]; rfl
  have rbf0 := HW.out.r1.frozen 0
  have rb1 : W.cell? ⟨w.heap.size + 3, 1, none⟩ = some (.bool false) := by rw [HW.out.r1.cell]; rfl
  have rbf1 := HW.out.r1.frozen 1
  have rb2 : W.cell? ⟨w.heap.size + 3, 2, none⟩ = some (.slice none 0 0) := by rw [HW.out.r1.cell]; rfl
  have rbf2 := HW.out.r1.frozen 2
  have rb3 : W.cell? ⟨w.heap.size + 3, 3, none⟩ = some (.bool false) := by rw [HW.out.r1.cell]; rfl
  have rbf3 := HW.out.r1.frozen 3
  go_quiet (fail)
  have HR : Hid (specM (l0, l1) s = ((l0, l1), ⟨0, false, keysL l0, false⟩, true)) := by show _ = _; simp [specM, spC, hwh, hwhat]
  have HKP : Hid (∀ X, Chg (fun i => i = w.heap.size + 1 + 1 ∨ i = w.heap.size + 1 + 1 + 1) W X → X.cell? ⟨w.heap.size, 0, none⟩ = some (.slice A0 l0.length c0) ∧ X.cell? ⟨w.heap.size, 1, none⟩ = some (.slice A1 l1.length c1) ∧ TwoIn X (NotR Kx w.heap.size) A0 A1 c0 c1 (l0, l1)) := fun X hX => by
    have hgl : w.heap.size < W.heap.size := by have := HW.out.size; omega
    exact ⟨(hX.cell (p := ⟨w.heap.size, 0, none⟩) hgl (fun h => by have h9 : w.heap.size = w.heap.size + 1 + 1 ∨ w.heap.size = w.heap.size + 1 + 1 + 1 := h; omega)).trans m0, (hX.cell (p := ⟨w.heap.size, 1, none⟩) hgl (fun h => by have h9 : w.heap.size = w.heap.size + 1 + 1 ∨ w.heap.size = w.heap.size + 1 + 1 + 1 := h; omega)).trans m1, (HT.out.notR).keep hX.size (fun p hp hn => hX.cell hp (fun h => h.elim hn.ne0 hn.ne1))⟩
  go_wp2_with fail
  go_region_held3 (fun w' => w'.cell? ⟨w.heap.size, 0, none⟩ = some (.slice A0 l0.length c0) ∧ w'.cell? ⟨w.heap.size, 1, none⟩ = some (.slice A1 l1.length c1))
    (exact ⟨(HKP.out _ (by repeat (first | (with_reducible exact Chg.refl _ _) | (with_reducible exact HC3.out) | (with_reducible refine Chg.drewN ?_ _) | (with_reducible refine Chg.drew ?_) | (with_reducible refine Chg.alloc ?_ _) | ((with_reducible refine Chg.setCell (S := fun i => i = w.heap.size + 1 + 1 ∨ i = w.heap.size + 1 + 1 + 1) ?_ ?_ _); rotate_left; first | exact fun _ => Or.inl rfl | exact fun _ => Or.inr rfl)))).1, (HKP.out _ (by repeat (first | (with_reducible exact Chg.refl _ _) | (with_reducible exact HC3.out) | (with_reducible refine Chg.drewN ?_ _) | (with_reducible refine Chg.drew ?_) | (with_reducible refine Chg.alloc ?_ _) | ((with_reducible refine Chg.setCell (S := fun i => i = w.heap.size + 1 + 1 ∨ i = w.heap.size + 1 + 1 + 1) ?_ ?_ _); rotate_left; first | exact fun _ => Or.inl rfl | exact fun _ => Or.inr rfl)))).2.1⟩)
    ((go_at_call 66
      refine (keys_spec _ A0 l0.length c0 l0 _ (HKP.out _ (by repeat (first | (with_reducible exact Chg.refl _ _) | (with_reducible exact HC3.out) | (with_reducible refine Chg.drewN ?_ _) | (with_reducible refine Chg.drew ?_) | (with_reducible refine Chg.alloc ?_ _) | ((with_reducible refine Chg.setCell (S := fun i => i = w.heap.size + 1 + 1 ∨ i = w.heap.size + 1 + 1 + 1) ?_ ?_ _); rotate_left; first | exact fun _ => Or.inl rfl | exact fun _ => Or.inr rfl)))).2.2.p0 (by omega)).mono ?_
      rintro e w3 ⟨RA, rc, rfl, hsl3, hb3⟩
      have HSL := hide hsl3
      clear hsl3
      have HC3 : Hid (Chg (fun i => i = w.heap.size + 1 + 1 ∨ i = w.heap.size + 1 + 1 + 1) W w3) := Chg.trans (by repeat (first | (with_reducible exact Chg.refl _ _) | (with_reducible exact HC3.out) | (with_reducible refine Chg.drewN ?_ _) | (with_reducible refine Chg.drew ?_) | (with_reducible refine Chg.alloc ?_ _) | ((with_reducible refine Chg.setCell (S := fun i => i = w.heap.size + 1 + 1 ∨ i = w.heap.size + 1 + 1 + 1) ?_ ?_ _); rotate_left; first | exact fun _ => Or.inl rfl | exact fun _ => Or.inr rfl))) (Chg.ofBelow hb3 (fun _ => False)) (fun _ _ h => h.elim)
      have hbW : Below W.heap.size W w3 := ⟨hb3.os, hb3.tape, hb3.output, hb3.size, hb3.block⟩
      have hr0 := HW.out.r0.below hbW HW.out.r0.lt
      have hr1 := HW.out.r1.below hbW HW.out.r1.lt
      have ra0 : w3.cell? ⟨w.heap.size + 1 + 1, 0, none⟩ = some (.slice none 0 0) := by rw [hr0.cell]; rfl
      have raf0 : w3.frozen? ⟨w.heap.size + 1 + 1, 0, none⟩ = false := hr0.frozen 0
      have ra1 : w3.cell? ⟨w.heap.size + 1 + 1, 1, none⟩ = some (.slice none 0 0) := by rw [hr0.cell]; rfl
      have raf1 : w3.frozen? ⟨w.heap.size + 1 + 1, 1, none⟩ = false := hr0.frozen 1
      have rb0 : w3.cell? ⟨w.heap.size + 1 + 1 + 1, 0, none⟩ = some (.int .i64 0) := by rw [hr1.cell]; rfl
      have rbf0 : w3.frozen? ⟨w.heap.size + 1 + 1 + 1, 0, none⟩ = false := hr1.frozen 0
      have rb1 : w3.cell? ⟨w.heap.size + 1 + 1 + 1, 1, none⟩ = some (.bool false) := by rw [hr1.cell]; rfl
      have rbf1 : w3.frozen? ⟨w.heap.size + 1 + 1 + 1, 1, none⟩ = false := hr1.frozen 1
      have rb2 : w3.cell? ⟨w.heap.size + 1 + 1 + 1, 2, none⟩ = some (.slice none 0 0) := by rw [hr1.cell]; rfl
      have rbf2 : w3.frozen? ⟨w.heap.size + 1 + 1 + 1, 2, none⟩ = false := hr1.frozen 2
      have rb3 : w3.cell? ⟨w.heap.size + 1 + 1 + 1, 3, none⟩ = some (.bool false) := by rw [hr1.cell]; rfl
      have rbf3 : w3.frozen? ⟨w.heap.size + 1 + 1 + 1, 3, none⟩ = false := hr1.frozen 3
      have HR0 := hide hr0
      have HR1 := hide hr1
      have HB3 : Hid (Below w.heap.size w w3) := HW.out.bel.trans (hbW.mono HW.out.bel.size)
      clear hr0 hr1 hb3 hbW))
  have HSIX : Hid (Blk (((((((w3).setCell ⟨w.heap.size + 1 + 1, 0, none⟩ (.slice A0 l0.length c0)).setCell ⟨w.heap.size + 1 + 1, 1, none⟩ (.slice A1 l1.length c1)).setCell ⟨w.heap.size + 1 + 1 + 1, 0, none⟩ (.int .i64 0)).setCell ⟨w.heap.size + 1 + 1 + 1, 1, none⟩ (.bool false)).setCell ⟨w.heap.size + 1 + 1 + 1, 2, none⟩ (.slice RA l0.length rc)).setCell ⟨w.heap.size + 1 + 1 + 1, 3, none⟩ (.bool false)) (w.heap.size + 1 + 1) 49 #[.slice A0 l0.length c0, .slice A1 l1.length c1] ∧ Blk (((((((w3).setCell ⟨w.heap.size + 1 + 1, 0, none⟩ (.slice A0 l0.length c0)).setCell ⟨w.heap.size + 1 + 1, 1, none⟩ (.slice A1 l1.length c1)).setCell ⟨w.heap.size + 1 + 1 + 1, 0, none⟩ (.int .i64 0)).setCell ⟨w.heap.size + 1 + 1 + 1, 1, none⟩ (.bool false)).setCell ⟨w.heap.size + 1 + 1 + 1, 2, none⟩ (.slice RA l0.length rc)).setCell ⟨w.heap.size + 1 + 1 + 1, 3, none⟩ (.bool false)) (w.heap.size + 1 + 1 + 1) 31 #[.int .i64 0, .bool false, .slice RA l0.length rc, .bool false] ∧ Chg (fun i => i = w.heap.size + 1 + 1 ∨ i = w.heap.size + 1 + 1 + 1) (w3) (((((((w3).setCell ⟨w.heap.size + 1 + 1, 0, none⟩ (.slice A0 l0.length c0)).setCell ⟨w.heap.size + 1 + 1, 1, none⟩ (.slice A1 l1.length c1)).setCell ⟨w.heap.size + 1 + 1 + 1, 0, none⟩ (.int .i64 0)).setCell ⟨w.heap.size + 1 + 1 + 1, 1, none⟩ (.bool false)).setCell ⟨w.heap.size + 1 + 1 + 1, 2, none⟩ (.slice RA l0.length rc)).setCell ⟨w.heap.size + 1 + 1 + 1, 3, none⟩ (.bool false))) := sp_six (g := w.heap.size) (E := w3) HR0.out HR1.out (.slice A0 l0.length c0) (.slice A1 l1.length c1) (.int .i64 0) (.bool false) (.slice RA l0.length rc) (.bool false)
  go_wp2
  generalize (((((((w3).setCell ⟨w.heap.size + 1 + 1, 0, none⟩ (.slice A0 l0.length c0)).setCell ⟨w.heap.size + 1 + 1, 1, none⟩ (.slice A1 l1.length c1)).setCell ⟨w.heap.size + 1 + 1 + 1, 0, none⟩ (.int .i64 0)).setCell ⟨w.heap.size + 1 + 1 + 1, 1, none⟩ (.bool false)).setCell ⟨w.heap.size + 1 + 1 + 1, 2, none⟩ (.slice RA l0.length rc)).setCell ⟨w.heap.size + 1 + 1 + 1, 3, none⟩ (.bool false)) = w9 at *
  have z0 : w9.cell? ⟨w.heap.size + 1 + 1, 0, none⟩ = some (.slice A0 l0.length c0) := by rw [HSIX.out.1.cell]; rfl
  have z1 : w9.cell? ⟨w.heap.size + 1 + 1, 1, none⟩ = some (.slice A1 l1.length c1) := by rw [HSIX.out.1.cell]; rfl
  have y0 : w9.cell? ⟨w.heap.size + 1 + 1 + 1, 0, none⟩ = some (.int .i64 0) := by rw [HSIX.out.2.1.cell]; rfl
  have y1 : w9.cell? ⟨w.heap.size + 1 + 1 + 1, 1, none⟩ = some (.bool false) := by rw [HSIX.out.2.1.cell]; rfl
  have y2 : w9.cell? ⟨w.heap.size + 1 + 1 + 1, 2, none⟩ = some (.slice RA l0.length rc) := by rw [HSIX.out.2.1.cell]; rfl
  have y3 : w9.cell? ⟨w.heap.size + 1 + 1 + 1, 3, none⟩ = some (.bool false) := by rw [HSIX.out.2.1.cell]; rfl
  refine bodyPost_ret (v := .tuple #[.agg #[.slice A0 l0.length c0, .slice A1 l1.length c1], .agg #[.int .i64 0, .bool false, .slice RA l0.length rc, .bool false], .bool true]) ?_ rfl ?_
  · simp [results, Try.f20, go_sem, z0, z1, y0, y1, y2, y3]
  · exact sp_fin (E := w3) (x := (l0, l1)) (ans := ⟨0, false, keysL l0, false⟩) (okb := true) HR.out HR0.out HR1.out (HKP.out _ HC3.out).2.2 HSL.out.len HSL.out HB3.out HSIX.out.2.2

set_option linter.unusedVariables false in
set_option linter.unusedSimpArgs false in
set_option maxHeartbeats 2000000 in
set_option maxRecDepth 100000 in
theorem spm0_d (Kx : Nat → Prop) (A0 A1 A : Option Addr) (c0 c1 c : Nat) (l0 l1 : List (Int × Int)) (s : StepD) (w : World) (hz0 : l0.length ≤ 274877906944) (hz1 : l1.length ≤ 274877906944) (h : TwoIn w Kx A0 A1 c0 c1 (l0, l1)) (hwh : s.which = 0) (hwhat : s.what < 0 ∨ 8 < s.what ∨ s.what = 7) :
    Calls Try.prog 20 #[.agg #[.slice A0 l0.length c0, .slice A1 l1.length c1], .agg (s.cells (.slice A s.list.length c))] w (SpecM Kx (specM (l0, l1) s) w) := by
  have hW := spW w (.slice A0 l0.length c0) (.slice A1 l1.length c1) (s.cells (.slice A s.list.length c))
  have hT : TwoIn _ (Lo Kx w.heap.size) A0 A1 c0 c1 (l0, l1) := h.lo.keep hW.bel.size (fun p hp _ => hW.bel.cell hp)
  clear h
  unfold StepD.cells at *
  rw [hwh] at hW hT ⊢
  have HW := hide hW
  have HT := hide hT
  clear hW hT
  go_enter Try.func20, Try.ntmps20
  go_wp2_with fail
  generalize (((w.alloc (.cells #[.slice A0 l0.length c0, .slice A1 l1.length c1] 49)).alloc (.cells #[.int .i64 s.what, .int .i64 0, .int .i64 s.index, .int .i64 s.bit, .int .i64 s.n, .int .i64 s.key, .int .i64 s.value, .slice A s.list.length c] 34)).alloc (.cells #[.slice none 0 0, .slice none 0 0] 49)).alloc (.cells #[.int .i64 0, .bool false, .slice none 0 0, .bool false] 31) = W at *
  have m0 : W.cell? ⟨w.heap.size, 0, none⟩ = some (.slice A0 l0.length c0) := by rw [HW.out.m.cell]; rfl
  have m1 : W.cell? ⟨w.heap.size, 1, none⟩ = some (.slice A1 l1.length c1) := by rw [HW.out.m.cell]; rfl
  have s0 : W.cell? ⟨w.heap.size + 1, 0, none⟩ = some (.int .i64 s.what) := by rw [HW.out.s.cell]; rfl
  have s1 : W.cell? ⟨w.heap.size + 1, 1, none⟩ = some (.int .i64 0) := by rw [HW.out.s.cell]; rfl
  have s5 : W.cell? ⟨w.heap.size + 1, 5, none⟩ = some (.int .i64 s.key) := by rw [HW.out.s.cell]; rfl
  have s6 : W.cell? ⟨w.heap.size + 1, 6, none⟩ = some (.int .i64 s.value) := by rw [HW.out.s.cell]; rfl
  have ra0 : W.cell? ⟨w.heap.size + 2, 0, none⟩ = some (.slice none 0 0) := by rw [HW.out.r0.cell]; rfl
  have raf0 := HW.out.r0.frozen 0
  have ra1 : W.cell? ⟨w.heap.size + 2, 1, none⟩ = some (.slice none 0 0) := by rw [HW.out.r0.cell]; rfl
  have raf1 := HW.out.r0.frozen 1
  have rb0 : W.cell? ⟨w.heap.size + 3, 0, none⟩ = some (.int .i64 0) := by rw [HW.out.r1.cell]; rfl
  have rbf0 := HW.out.r1.frozen 0
  have rb1 : W.cell? ⟨w.heap.size + 3, 1, none⟩ = some (.bool false) := by rw [HW.out.r1.cell]; rfl
  have rbf1 := HW.out.r1.frozen 1
  have rb2 : W.cell? ⟨w.heap.size + 3, 2, none⟩ = some (.slice none 0 0) := by rw [HW.out.r1.cell]; rfl
  have rbf2 := HW.out.r1.frozen 2
  have rb3 : W.cell? ⟨w.heap.size + 3, 3, none⟩ = some (.bool false) := by rw [HW.out.r1.cell]; rfl
  have rbf3 := HW.out.r1.frozen 3
  go_quiet (fail)
  have HR : Hid (specM (l0, l1) s = ((l0, l1), zeroAns, false)) := by
    have n0 : ¬ s.what = 0 := by omega
    have n1 : ¬ s.what = 1 := by omega
    have n2 : ¬ s.what = 2 := by omega
    have n3 : ¬ s.what = 3 := by omega
    have n4 : ¬ s.what = 4 := by omega
    have n5 : ¬ s.what = 5 := by omega
    have n6 : ¬ s.what = 6 := by omega
    have n8 : ¬ s.what = 8 := by omega
    show _ = _
    simp [specM, spC, hwh, n0, n1, n2, n3, n4, n5, n6, n8]
  have n0 : ¬ s.what = 0 := by omega
  have n1 : ¬ s.what = 1 := by omega
  have n2 : ¬ s.what = 2 := by omega
  have n3 : ¬ s.what = 3 := by omega
  have n4 : ¬ s.what = 4 := by omega
  have n5 : ¬ s.what = 5 := by omega
  have n6 : ¬ s.what = 6 := by omega
  have n8 : ¬ s.what = 8 := by omega
  have n7 : True := trivial
  have HSIX : Hid (Blk (((((((W.drewN nq).setCell ⟨w.heap.size + 1 + 1, 0, none⟩ (.slice A0 l0.length c0)).setCell ⟨w.heap.size + 1 + 1, 1, none⟩ (.slice A1 l1.length c1)).setCell ⟨w.heap.size + 1 + 1 + 1, 0, none⟩ (.int .i64 0)).setCell ⟨w.heap.size + 1 + 1 + 1, 1, none⟩ (.bool false)).setCell ⟨w.heap.size + 1 + 1 + 1, 2, none⟩ (.slice none 0 0)).setCell ⟨w.heap.size + 1 + 1 + 1, 3, none⟩ (.bool false)) (w.heap.size + 1 + 1) 49 #[.slice A0 l0.length c0, .slice A1 l1.length c1] ∧ Blk (((((((W.drewN nq).setCell ⟨w.heap.size + 1 + 1, 0, none⟩ (.slice A0 l0.length c0)).setCell ⟨w.heap.size + 1 + 1, 1, none⟩ (.slice A1 l1.length c1)).setCell ⟨w.heap.size + 1 + 1 + 1, 0, none⟩ (.int .i64 0)).setCell ⟨w.heap.size + 1 + 1 + 1, 1, none⟩ (.bool false)).setCell ⟨w.heap.size + 1 + 1 + 1, 2, none⟩ (.slice none 0 0)).setCell ⟨w.heap.size + 1 + 1 + 1, 3, none⟩ (.bool false)) (w.heap.size + 1 + 1 + 1) 31 #[.int .i64 0, .bool false, .slice none 0 0, .bool false] ∧ Chg (fun i => i = w.heap.size + 1 + 1 ∨ i = w.heap.size + 1 + 1 + 1) (W.drewN nq) (((((((W.drewN nq).setCell ⟨w.heap.size + 1 + 1, 0, none⟩ (.slice A0 l0.length c0)).setCell ⟨w.heap.size + 1 + 1, 1, none⟩ (.slice A1 l1.length c1)).setCell ⟨w.heap.size + 1 + 1 + 1, 0, none⟩ (.int .i64 0)).setCell ⟨w.heap.size + 1 + 1 + 1, 1, none⟩ (.bool false)).setCell ⟨w.heap.size + 1 + 1 + 1, 2, none⟩ (.slice none 0 0)).setCell ⟨w.heap.size + 1 + 1 + 1, 3, none⟩ (.bool false))) := sp_six (g := w.heap.size) (E := W.drewN nq) HW.out.r0 HW.out.r1 (.slice A0 l0.length c0) (.slice A1 l1.length c1) (.int .i64 0) (.bool false) (.slice none 0 0) (.bool false)
  go_wp2
  generalize (((((((W.drewN nq).setCell ⟨w.heap.size + 1 + 1, 0, none⟩ (.slice A0 l0.length c0)).setCell ⟨w.heap.size + 1 + 1, 1, none⟩ (.slice A1 l1.length c1)).setCell ⟨w.heap.size + 1 + 1 + 1, 0, none⟩ (.int .i64 0)).setCell ⟨w.heap.size + 1 + 1 + 1, 1, none⟩ (.bool false)).setCell ⟨w.heap.size + 1 + 1 + 1, 2, none⟩ (.slice none 0 0)).setCell ⟨w.heap.size + 1 + 1 + 1, 3, none⟩ (.bool false)) = w9 at *
  have z0 : w9.cell? ⟨w.heap.size + 1 + 1, 0, none⟩ = some (.slice A0 l0.length c0) := by rw [HSIX.out.1.cell]; rfl
  have z1 : w9.cell? ⟨w.heap.size + 1 + 1, 1, none⟩ = some (.slice A1 l1.length c1) := by rw [HSIX.out.1.cell]; rfl
  have y0 : w9.cell? ⟨w.heap.size + 1 + 1 + 1, 0, none⟩ = some (.int .i64 0) := by rw [HSIX.out.2.1.cell]; rfl
  have y1 : w9.cell? ⟨w.heap.size + 1 + 1 + 1, 1, none⟩ = some (.bool false) := by rw [HSIX.out.2.1.cell]; rfl
  have y2 : w9.cell? ⟨w.heap.size + 1 + 1 + 1, 2, none⟩ = some (.slice none 0 0) := by rw [HSIX.out.2.1.cell]; rfl
  have y3 : w9.cell? ⟨w.heap.size + 1 + 1 + 1, 3, none⟩ = some (.bool false) := by rw [HSIX.out.2.1.cell]; rfl
  refine bodyPost_ret (v := .tuple #[.agg #[.slice A0 l0.length c0, .slice A1 l1.length c1], .agg #[.int .i64 0, .bool false, .slice none 0 0, .bool false], .bool false]) ?_ rfl ?_
  · simp [results, Try.f20, go_sem, z0, z1, y0, y1, y2, y3]
  · exact sp_fin (E := W.drewN nq) (x := (l0, l1)) (ans := zeroAns) (okb := false) HR.out HW.out.r0 HW.out.r1 (TwoIn.notR (HT.out.keep (Nat.le_refl _) (fun _ _ _ => rfl))) rfl SliceIs.none_ (below_q HW.out.bel _) HSIX.out.2.2

end Go.Proofs.Ytammpllfmbmdmaa
