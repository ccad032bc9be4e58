/- The closure of impl.Maps at the map 0: steps of the kinds 0,1,2,3,4,5,6,7,8,d. Under sizes alone. Printed by gen_md.py. -/
import Derived.Test.YtammpllfmbmdmaaMd2
import Derived.BigQuiet
import Derived.Deep.QuietTactic
import Derived.Deep.RegionHeld3
import Derived.Deep.Cut
import Derived.Test.YtammpllfmbmdmaaMs8h
import Derived.Test.YtammpllfmbmdmaaHm9
namespace Go.Proofs.Ytammpllfmbmdmaa
open Go.RowKit

set_option linter.unusedVariables false in
set_option linter.unusedSimpArgs false in
set_option maxHeartbeats 2000000 in
set_option maxRecDepth 100000 in
theorem maps0_0 (md : Int) (B mb ab : Nat) (l0 l1 : List (Int × Int)) (F : Nat → Prop) (s : StepD) (A : Option Addr) (c : Nat) (w : World) (hmd : okI md) (hz0 : l0.length ≤ 549755813888) (hz1 : l1.length ≤ 549755813888) (h : MInv md B mb ab w (l0, l1) F) (hB : B ≤ w.heap.size) (hwh : s.which = 0) (hwhat : s.what = 0) :
    Calls Try.prog 70 #[.agg (s.cells (.slice A s.list.length c)), .pointer (some ⟨ab, 0, none⟩)] w (Stepped (machM md B mb ab) (l0, l1) F s (fun _ e _ => ∃ u pv, e = .panicked [{ v := .iface u pv, recovered := false }]) w) := by
  obtain ⟨p0, p1, F0, F1, hp⟩ := h.parts
  have hst0 := start_facts w (s.cells (.slice A s.list.length c)) #[.int .i64 0, .bool false, .slice none 0 0, .bool false]
  have hP0 := hp.chg (Chg.ofBelow hst0.1 (fun _ => False)) (fun _ _ h => h)
  have hbx : Blk ((w.alloc (.cells (s.cells (.slice A s.list.length c)) 29)).alloc (.cells #[.int .i64 0, .bool false, .slice none 0 0, .bool false] 46)) w.heap.size 29 (s.cells (.slice A s.list.length c)) := (Blk.new _ _ _).alloc _
  have HNF : Hid (¬ F (w.heap.size + 1) ∧ ¬ F w.heap.size) := ⟨fun h => by have := hp.lt _ h; omega, fun h => by have := hp.lt _ h; omega⟩
  have hal : ab < w.heap.size := hp.arr.lt
  have ca0 : w.cell? ⟨ab, 0, none⟩ = some (.pointer (some ⟨p0, 0, none⟩)) := by rw [hp.arr.cell]; rfl
  have ca1 : w.cell? ⟨ab, 1, none⟩ = some (.pointer (some ⟨p1, 0, none⟩)) := by rw [hp.arr.cell]; rfl
  have HB0 := hide hst0
  have HP0 := hide hP0
  have HBX := hide hbx
  clear hp hst0 hP0 hbx h
  unfold StepD.cells at *
  rw [hwhat, hwh] at HB0 HP0 HBX ⊢
  go_enter Try.func70, Try.ntmps70
  go_wp2_with fail
  generalize (w.alloc (.cells #[.int .i64 0, .int .i64 0, .int .i64 s.index, .int .i64 s.bit, .int .i64 s.n, .int .i64 s.key, .int .i64 s.value, .slice A s.list.length c] 29)).alloc (.cells #[.int .i64 0, .bool false, .slice none 0 0, .bool false] 46) = W at *
  have HW : Hid (W.heap.size = w.heap.size + 2) := HB0.out.2.2
  have HCW : Hid (Chg F w W) := Chg.ofBelow HB0.out.1 F
  have b0 : W.cell? ⟨w.heap.size, 0, none⟩ = some (.int .i64 0) := by rw [HBX.out.cell]; rfl
  have b1 : W.cell? ⟨w.heap.size, 1, none⟩ = some (.int .i64 0) := by rw [HBX.out.cell]; rfl
  have b5 : W.cell? ⟨w.heap.size, 5, none⟩ = some (.int .i64 s.key) := by rw [HBX.out.cell]; rfl
  have b6 : W.cell? ⟨w.heap.size, 6, none⟩ = some (.int .i64 s.value) := by rw [HBX.out.cell]; rfl
  have ba0 : W.cell? ⟨ab, 0, none⟩ = some (.pointer (some ⟨p0, 0, none⟩)) := by rw [HP0.out.arr.cell]; rfl
  have ba1 : W.cell? ⟨ab, 1, none⟩ = some (.pointer (some ⟨p1, 0, none⟩)) := by rw [HP0.out.arr.cell]; rfl
  have hz := HB0.out.2.1
  have k0 : W.cell? ⟨w.heap.size + 1, 0, none⟩ = some (.int .i64 0) := by rw [hz.cell]; rfl
  have k1 : W.cell? ⟨w.heap.size + 1, 1, none⟩ = some (.bool false) := by rw [hz.cell]; rfl
  have k2 : W.cell? ⟨w.heap.size + 1, 2, none⟩ = some (.slice none 0 0) := by rw [hz.cell]; rfl
  have k3 : W.cell? ⟨w.heap.size + 1, 3, none⟩ = some (.bool false) := by rw [hz.cell]; rfl
  have f0 := hz.frozen 0
  have f1 := hz.frozen 1
  have f2 := hz.frozen 2
  have f3 := hz.frozen 3
  clear hz
  go_quiet (fail)
  have HPN : Hid (MP md B mb ab (W.drewN nq) l0 l1 F p0 p1 F0 F1) := HP0.out.chg ((Chg.refl (fun _ => False) W).drewN nq) (fun _ _ h => h)
  have HBW : Hid (B ≤ (W.drewN nq).heap.size) := by have := HW.out; show B ≤ W.heap.size; omega
  have hcall := put_any md s.key s.value mb p0 l0 F0 (W.drewN nq) HPN.out.m0 hmd (by omega)
  have HCALL := hide hcall
  clear hcall
  go_wp2_with fail
  refine HCALL.out.mono ?_
  rintro e w1 ⟨rfl, F', q1, q2, q3⟩
  obtain ⟨g1, g2, g3⟩ := MP.cur0 HPN.out q1 q2 q3 HBW.out
  obtain ⟨FN, hFN⟩ : ∃ FN : Nat → Prop, FN = fun i => i = ab ∨ i = mb ∨ F' i ∨ F1 i := ⟨_, rfl⟩
  replace g2 : ∀ i, FN i → F i ∨ (W.drewN nq).heap.size ≤ i := by rw [hFN]; exact g2
  rw [← hFN] at g1
  have HI1 := hide g1
  have HF1 : Hid (∀ i, FN i → F i ∨ w.heap.size ≤ i) := fun i hi => (g2 i hi).imp id (fun h => by have := HW.out; have h9 : W.heap.size ≤ i := h; omega)
  have HN1 : Hid (¬ FN (w.heap.size + 1)) := fun hi => by
    rcases g2 _ hi with h | h
    · exact HNF.out.1 h
    · have := HW.out; have h9 : W.heap.size ≤ w.heap.size + 1 := h; omega
  have HC1 : Hid (Chg F w w1) := (HCW.out.drewN nq).trans g3 (fun _ _ h => h)
  have HZ1 : Hid (Blk w1 (w.heap.size + 1) 46 #[.int .i64 0, .bool false, .slice none 0 0, .bool false]) := Blk.chg (w := W.drewN nq) HB0.out.2.1 g3 HNF.out.1
  clear g1 g2 g3 hFN
  clear q1 q2 q3
  have hz := HZ1.out
  have k0 : w1.cell? ⟨w.heap.size + 1, 0, none⟩ = some (.int .i64 0) := by rw [hz.cell]; rfl
  have k1 : w1.cell? ⟨w.heap.size + 1, 1, none⟩ = some (.bool false) := by rw [hz.cell]; rfl
  have k2 : w1.cell? ⟨w.heap.size + 1, 2, none⟩ = some (.slice none 0 0) := by rw [hz.cell]; rfl
  have k3 : w1.cell? ⟨w.heap.size + 1, 3, none⟩ = some (.bool false) := by rw [hz.cell]; rfl
  have f0 := hz.frozen 0
  have f1 := hz.frozen 1
  have f2 := hz.frozen 2
  have f3 := hz.frozen 3
  clear hz
  go_wp2
  refine bodyPost_ret (v := .agg ((zeroAns : AnsD).cells (.slice none 0 0))) ?_ rfl ?_
  · simp [results, Try.f70, go_sem, k0, k1, k2, k3, AnsD.cells, zeroAns]
  · refine done_ok (machM md B mb ab) (x' := (putL l0 s.key s.value, l1)) (a := zeroAns) (r := w.heap.size + 1) (w1 := w1) (F1 := FN) (c := 0) ?_ rfl HI1.out HF1.out HN1.out (Nat.le_succ _) HC1.out ?_ SliceIs.none_
    · show ((stepM md (l0, l1) s).1, some (stepM md (l0, l1) s).2) = _
      simp [stepM, stpM, hwhat, hwh]
    · first
        | exact set4_chg _ _ _ _ _ _
        | exact set5_chg _ _ _ _ _ _ _
        | exact set6_chg _ _ _ _ _ _ _ _
        | exact Chg.refl _ _

set_option linter.unusedVariables false in
set_option linter.unusedSimpArgs false in
set_option maxHeartbeats 2000000 in
set_option maxRecDepth 100000 in
theorem maps0_1 (md : Int) (B mb ab : Nat) (l0 l1 : List (Int × Int)) (F : Nat → Prop) (s : StepD) (A : Option Addr) (c : Nat) (w : World) (hmd : okI md) (hz0 : l0.length ≤ 549755813888) (hz1 : l1.length ≤ 549755813888) (h : MInv md B mb ab w (l0, l1) F) (hB : B ≤ w.heap.size) (hwh : s.which = 0) (hwhat : s.what = 1) :
    Calls Try.prog 70 #[.agg (s.cells (.slice A s.list.length c)), .pointer (some ⟨ab, 0, none⟩)] w (Stepped (machM md B mb ab) (l0, l1) F s (fun _ e _ => ∃ u pv, e = .panicked [{ v := .iface u pv, recovered := false }]) w) := by
  obtain ⟨p0, p1, F0, F1, hp⟩ := h.parts
  have hst0 := start_facts w (s.cells (.slice A s.list.length c)) #[.int .i64 0, .bool false, .slice none 0 0, .bool false]
  have hP0 := hp.chg (Chg.ofBelow hst0.1 (fun _ => False)) (fun _ _ h => h)
  have hbx : Blk ((w.alloc (.cells (s.cells (.slice A s.list.length c)) 29)).alloc (.cells #[.int .i64 0, .bool false, .slice none 0 0, .bool false] 46)) w.heap.size 29 (s.cells (.slice A s.list.length c)) := (Blk.new _ _ _).alloc _
  have HNF : Hid (¬ F (w.heap.size + 1) ∧ ¬ F w.heap.size) := ⟨fun h => by have := hp.lt _ h; omega, fun h => by have := hp.lt _ h; omega⟩
  have hal : ab < w.heap.size := hp.arr.lt
  have ca0 : w.cell? ⟨ab, 0, none⟩ = some (.pointer (some ⟨p0, 0, none⟩)) := by rw [hp.arr.cell]; rfl
  have ca1 : w.cell? ⟨ab, 1, none⟩ = some (.pointer (some ⟨p1, 0, none⟩)) := by rw [hp.arr.cell]; rfl
  have HB0 := hide hst0
  have HP0 := hide hP0
  have HBX := hide hbx
  clear hp hst0 hP0 hbx h
  unfold StepD.cells at *
  rw [hwhat, hwh] at HB0 HP0 HBX ⊢
  go_enter Try.func70, Try.ntmps70
  go_wp2_with fail
  generalize (w.alloc (.cells #[.int .i64 1, .int .i64 0, .int .i64 s.index, .int .i64 s.bit, .int .i64 s.n, .int .i64 s.key, .int .i64 s.value, .slice A s.list.length c] 29)).alloc (.cells #[.int .i64 0, .bool false, .slice none 0 0, .bool false] 46) = W at *
  have HW : Hid (W.heap.size = w.heap.size + 2) := HB0.out.2.2
  have HCW : Hid (Chg F w W) := Chg.ofBelow HB0.out.1 F
  have b0 : W.cell? ⟨w.heap.size, 0, none⟩ = some (.int .i64 1) := by rw [HBX.out.cell]; rfl
  have b1 : W.cell? ⟨w.heap.size, 1, none⟩ = some (.int .i64 0) := by rw [HBX.out.cell]; rfl
  have b5 : W.cell? ⟨w.heap.size, 5, none⟩ = some (.int .i64 s.key) := by rw [HBX.out.cell]; rfl
  have b6 : W.cell? ⟨w.heap.size, 6, none⟩ = some (.int .i64 s.value) := by rw [HBX.out.cell]; rfl
  have ba0 : W.cell? ⟨ab, 0, none⟩ = some (.pointer (some ⟨p0, 0, none⟩)) := by rw [HP0.out.arr.cell]; rfl
  have ba1 : W.cell? ⟨ab, 1, none⟩ = some (.pointer (some ⟨p1, 0, none⟩)) := by rw [HP0.out.arr.cell]; rfl
  have hz := HB0.out.2.1
  have k0 : W.cell? ⟨w.heap.size + 1, 0, none⟩ = some (.int .i64 0) := by rw [hz.cell]; rfl
  have k1 : W.cell? ⟨w.heap.size + 1, 1, none⟩ = some (.bool false) := by rw [hz.cell]; rfl
  have k2 : W.cell? ⟨w.heap.size + 1, 2, none⟩ = some (.slice none 0 0) := by rw [hz.cell]; rfl
  have k3 : W.cell? ⟨w.heap.size + 1, 3, none⟩ = some (.bool false) := by rw [hz.cell]; rfl
  have f0 := hz.frozen 0
  have f1 := hz.frozen 1
  have f2 := hz.frozen 2
  have f3 := hz.frozen 3
  clear hz
  go_quiet (fail)
  have HPN : Hid (MP md B mb ab (W.drewN nq) l0 l1 F p0 p1 F0 F1) := HP0.out.chg ((Chg.refl (fun _ => False) W).drewN nq) (fun _ _ h => h)
  have HBW : Hid (B ≤ (W.drewN nq).heap.size) := by have := HW.out; show B ≤ W.heap.size; omega
  have HCALL := hide (get_any md s.key mb p0 l0 F0 (W.drewN nq) HPN.out.m0 hmd)
  go_wp2_with fail
  refine HCALL.out.mono ?_
  rintro e w1 ⟨rfl, m, hw1⟩
  have hcw : Chg (fun _ => False) (W.drewN nq) w1 := by rw [hw1]; exact (Chg.refl _ _).drewN m
  have HI1 : Hid (MInv md B mb ab w1 (l0, l1) F) := (HPN.out.chg hcw (fun _ _ h => h)).inv
  have HF1 : Hid (∀ i, F i → F i ∨ w.heap.size ≤ i) := fun i hi => Or.inl hi
  have HN1 : Hid (¬ F (w.heap.size + 1)) := HNF.out.1
  have HC1 : Hid (Chg F w w1) := (HCW.out.drewN nq).trans hcw (fun _ _ h => h.elim)
  have HZ1 : Hid (Blk w1 (w.heap.size + 1) 46 #[.int .i64 0, .bool false, .slice none 0 0, .bool false]) := Blk.chg (w := W.drewN nq) HB0.out.2.1 hcw (fun h => h)
  obtain ⟨FN, hFN⟩ : ∃ FN, FN = F := ⟨_, rfl⟩
  rw [← hFN] at HI1 HN1
  replace HF1 : Hid (∀ i, FN i → F i ∨ w.heap.size ≤ i) := by rw [hFN]; exact HF1.out
  clear hcw hw1
  have hz := HZ1.out
  have k0 : w1.cell? ⟨w.heap.size + 1, 0, none⟩ = some (.int .i64 0) := by rw [hz.cell]; rfl
  have k1 : w1.cell? ⟨w.heap.size + 1, 1, none⟩ = some (.bool false) := by rw [hz.cell]; rfl
  have k2 : w1.cell? ⟨w.heap.size + 1, 2, none⟩ = some (.slice none 0 0) := by rw [hz.cell]; rfl
  have k3 : w1.cell? ⟨w.heap.size + 1, 3, none⟩ = some (.bool false) := by rw [hz.cell]; rfl
  have f0 := hz.frozen 0
  have f1 := hz.frozen 1
  have f2 := hz.frozen 2
  have f3 := hz.frozen 3
  clear hz
  unfold getA
  go_upto_region 24 with (fail)
  have HZ2 : Hid (Blk ((w1.setCell ⟨w.heap.size + 1, 0, none⟩ (.int .i64 ((l0.lookup s.key).getD (-1)))).setCell ⟨w.heap.size + 1, 1, none⟩ (.bool (l0.lookup s.key).isSome)) (w.heap.size + 1) 46 #[.int .i64 ((l0.lookup s.key).getD (-1)), .bool (l0.lookup s.key).isSome, .slice none 0 0, .bool false]) := ((HZ1.out.set_ 0 (.int .i64 ((l0.lookup s.key).getD (-1)))).set_ 1 (.bool (l0.lookup s.key).isSome))
  have HS2 : Hid (Chg (· = w.heap.size + 1) w1 ((w1.setCell ⟨w.heap.size + 1, 0, none⟩ (.int .i64 ((l0.lookup s.key).getD (-1)))).setCell ⟨w.heap.size + 1, 1, none⟩ (.bool (l0.lookup s.key).isSome))) := (((Chg.refl (· = w.heap.size + 1) w1).setCell (p := ⟨w.heap.size + 1, 0, none⟩) (fun _ => rfl) (.int .i64 ((l0.lookup s.key).getD (-1)))).setCell (p := ⟨w.heap.size + 1, 1, none⟩) (fun _ => rfl) (.bool (l0.lookup s.key).isSome))
  generalize ((w1.setCell ⟨w.heap.size + 1, 0, none⟩ (.int .i64 ((l0.lookup s.key).getD (-1)))).setCell ⟨w.heap.size + 1, 1, none⟩ (.bool (l0.lookup s.key).isSome)) = w2 at *
  clear k0 k1 k2 k3 f0 f1 f2 f3
  have k0 : w2.cell? ⟨w.heap.size + 1, 0, none⟩ = some (.int .i64 ((l0.lookup s.key).getD (-1))) := by rw [HZ2.out.cell]; rfl
  have k1 : w2.cell? ⟨w.heap.size + 1, 1, none⟩ = some (.bool (l0.lookup s.key).isSome) := by rw [HZ2.out.cell]; rfl
  have k2 : w2.cell? ⟨w.heap.size + 1, 2, none⟩ = some (.slice none 0 0) := by rw [HZ2.out.cell]; rfl
  have k3 : w2.cell? ⟨w.heap.size + 1, 3, none⟩ = some (.bool false) := by rw [HZ2.out.cell]; rfl
  have f0 := HZ2.out.frozen 0
  have f1 := HZ2.out.frozen 1
  have f2 := HZ2.out.frozen 2
  have f3 := HZ2.out.frozen 3
  go_wp2
  refine bodyPost_ret (v := .agg ((⟨(l0.lookup s.key).getD (-1), (l0.lookup s.key).isSome, [], false⟩ : AnsD).cells (.slice none 0 0))) ?_ rfl ?_
  · simp [results, Try.f70, go_sem, k0, k1, k2, k3, AnsD.cells]
  · refine done_ok (machM md B mb ab) (x' := (l0, l1)) (a := ⟨(l0.lookup s.key).getD (-1), (l0.lookup s.key).isSome, [], false⟩) (r := w.heap.size + 1) (w1 := w1) (F1 := FN) (c := 0) ?_ rfl HI1.out HF1.out HN1.out (Nat.le_succ _) HC1.out ?_ SliceIs.none_
    · show ((stepM md (l0, l1) s).1, some (stepM md (l0, l1) s).2) = _
      simp [stepM, stpM, hwhat, hwh]
    · exact HS2.out.trans (set4_chg _ _ _ _ _ _) (fun _ _ h => h)

set_option linter.unusedVariables false in
set_option linter.unusedSimpArgs false in
set_option maxHeartbeats 2000000 in
set_option maxRecDepth 100000 in
theorem maps0_2 (md : Int) (B mb ab : Nat) (l0 l1 : List (Int × Int)) (F : Nat → Prop) (s : StepD) (A : Option Addr) (c : Nat) (w : World) (hmd : okI md) (hz0 : l0.length ≤ 549755813888) (hz1 : l1.length ≤ 549755813888) (h : MInv md B mb ab w (l0, l1) F) (hB : B ≤ w.heap.size) (hwh : s.which = 0) (hwhat : s.what = 2) :
    Calls Try.prog 70 #[.agg (s.cells (.slice A s.list.length c)), .pointer (some ⟨ab, 0, none⟩)] w (Stepped (machM md B mb ab) (l0, l1) F s (fun _ e _ => ∃ u pv, e = .panicked [{ v := .iface u pv, recovered := false }]) w) := by
  obtain ⟨p0, p1, F0, F1, hp⟩ := h.parts
  have hst0 := start_facts w (s.cells (.slice A s.list.length c)) #[.int .i64 0, .bool false, .slice none 0 0, .bool false]
  have hP0 := hp.chg (Chg.ofBelow hst0.1 (fun _ => False)) (fun _ _ h => h)
  have hbx : Blk ((w.alloc (.cells (s.cells (.slice A s.list.length c)) 29)).alloc (.cells #[.int .i64 0, .bool false, .slice none 0 0, .bool false] 46)) w.heap.size 29 (s.cells (.slice A s.list.length c)) := (Blk.new _ _ _).alloc _
  have HNF : Hid (¬ F (w.heap.size + 1) ∧ ¬ F w.heap.size) := ⟨fun h => by have := hp.lt _ h; omega, fun h => by have := hp.lt _ h; omega⟩
  have hal : ab < w.heap.size := hp.arr.lt
  have ca0 : w.cell? ⟨ab, 0, none⟩ = some (.pointer (some ⟨p0, 0, none⟩)) := by rw [hp.arr.cell]; rfl
  have ca1 : w.cell? ⟨ab, 1, none⟩ = some (.pointer (some ⟨p1, 0, none⟩)) := by rw [hp.arr.cell]; rfl
  have HB0 := hide hst0
  have HP0 := hide hP0
  have HBX := hide hbx
  clear hp hst0 hP0 hbx h
  unfold StepD.cells at *
  rw [hwhat, hwh] at HB0 HP0 HBX ⊢
  go_enter Try.func70, Try.ntmps70
  go_wp2_with fail
  generalize (w.alloc (.cells #[.int .i64 2, .int .i64 0, .int .i64 s.index, .int .i64 s.bit, .int .i64 s.n, .int .i64 s.key, .int .i64 s.value, .slice A s.list.length c] 29)).alloc (.cells #[.int .i64 0, .bool false, .slice none 0 0, .bool false] 46) = W at *
  have HW : Hid (W.heap.size = w.heap.size + 2) := HB0.out.2.2
  have HCW : Hid (Chg F w W) := Chg.ofBelow HB0.out.1 F
  have b0 : W.cell? ⟨w.heap.size, 0, none⟩ = some (.int .i64 2) := by rw [HBX.out.cell]; rfl
  have b1 : W.cell? ⟨w.heap.size, 1, none⟩ = some (.int .i64 0) := by rw [HBX.out.cell]; rfl
  have b5 : W.cell? ⟨w.heap.size, 5, none⟩ = some (.int .i64 s.key) := by rw [HBX.out.cell]; rfl
  have b6 : W.cell? ⟨w.heap.size, 6, none⟩ = some (.int .i64 s.value) := by rw [HBX.out.cell]; rfl
  have ba0 : W.cell? ⟨ab, 0, none⟩ = some (.pointer (some ⟨p0, 0, none⟩)) := by rw [HP0.out.arr.cell]; rfl
  have ba1 : W.cell? ⟨ab, 1, none⟩ = some (.pointer (some ⟨p1, 0, none⟩)) := by rw [HP0.out.arr.cell]; rfl
  have hz := HB0.out.2.1
  have k0 : W.cell? ⟨w.heap.size + 1, 0, none⟩ = some (.int .i64 0) := by rw [hz.cell]; rfl
  have k1 : W.cell? ⟨w.heap.size + 1, 1, none⟩ = some (.bool false) := by rw [hz.cell]; rfl
  have k2 : W.cell? ⟨w.heap.size + 1, 2, none⟩ = some (.slice none 0 0) := by rw [hz.cell]; rfl
  have k3 : W.cell? ⟨w.heap.size + 1, 3, none⟩ = some (.bool false) := by rw [hz.cell]; rfl
  have f0 := hz.frozen 0
  have f1 := hz.frozen 1
  have f2 := hz.frozen 2
  have f3 := hz.frozen 3
  clear hz
  go_quiet (fail)
  have HPN : Hid (MP md B mb ab (W.drewN nq) l0 l1 F p0 p1 F0 F1) := HP0.out.chg ((Chg.refl (fun _ => False) W).drewN nq) (fun _ _ h => h)
  have HBW : Hid (B ≤ (W.drewN nq).heap.size) := by have := HW.out; show B ≤ W.heap.size; omega
  have HCALL := hide (delete_any md s.key mb p0 l0 F0 (W.drewN nq) HPN.out.m0 hmd (by omega))
  go_wp2_with fail
  refine HCALL.out.mono ?_
  rintro e w1 ⟨rfl, q1, q3⟩
  obtain ⟨F', hF'⟩ : ∃ F', F' = F0 := ⟨_, rfl⟩
  rw [← hF'] at q1
  obtain ⟨g1, g2, g3⟩ := MP.cur0 HPN.out q1 (fun i hi => Or.inl (hF' ▸ hi)) q3 HBW.out
  obtain ⟨FN, hFN⟩ : ∃ FN : Nat → Prop, FN = fun i => i = ab ∨ i = mb ∨ F' i ∨ F1 i := ⟨_, rfl⟩
  replace g2 : ∀ i, FN i → F i ∨ (W.drewN nq).heap.size ≤ i := by rw [hFN]; exact g2
  rw [← hFN] at g1
  have HI1 := hide g1
  have HF1 : Hid (∀ i, FN i → F i ∨ w.heap.size ≤ i) := fun i hi => (g2 i hi).imp id (fun h => by have := HW.out; have h9 : W.heap.size ≤ i := h; omega)
  have HN1 : Hid (¬ FN (w.heap.size + 1)) := fun hi => by
    rcases g2 _ hi with h | h
    · exact HNF.out.1 h
    · have := HW.out; have h9 : W.heap.size ≤ w.heap.size + 1 := h; omega
  have HC1 : Hid (Chg F w w1) := (HCW.out.drewN nq).trans g3 (fun _ _ h => h)
  have HZ1 : Hid (Blk w1 (w.heap.size + 1) 46 #[.int .i64 0, .bool false, .slice none 0 0, .bool false]) := Blk.chg (w := W.drewN nq) HB0.out.2.1 g3 HNF.out.1
  clear g1 g2 g3 hFN
  clear q1 q3
  have hz := HZ1.out
  have k0 : w1.cell? ⟨w.heap.size + 1, 0, none⟩ = some (.int .i64 0) := by rw [hz.cell]; rfl
  have k1 : w1.cell? ⟨w.heap.size + 1, 1, none⟩ = some (.bool false) := by rw [hz.cell]; rfl
  have k2 : w1.cell? ⟨w.heap.size + 1, 2, none⟩ = some (.slice none 0 0) := by rw [hz.cell]; rfl
  have k3 : w1.cell? ⟨w.heap.size + 1, 3, none⟩ = some (.bool false) := by rw [hz.cell]; rfl
  have f0 := hz.frozen 0
  have f1 := hz.frozen 1
  have f2 := hz.frozen 2
  have f3 := hz.frozen 3
  clear hz
  go_wp2
  refine bodyPost_ret (v := .agg ((zeroAns : AnsD).cells (.slice none 0 0))) ?_ rfl ?_
  · simp [results, Try.f70, go_sem, k0, k1, k2, k3, AnsD.cells, zeroAns]
  · refine done_ok (machM md B mb ab) (x' := (delL l0 s.key, l1)) (a := zeroAns) (r := w.heap.size + 1) (w1 := w1) (F1 := FN) (c := 0) ?_ rfl HI1.out HF1.out HN1.out (Nat.le_succ _) HC1.out ?_ SliceIs.none_
    · show ((stepM md (l0, l1) s).1, some (stepM md (l0, l1) s).2) = _
      simp [stepM, stpM, hwhat, hwh]
    · first
        | exact set4_chg _ _ _ _ _ _
        | exact set5_chg _ _ _ _ _ _ _
        | exact set6_chg _ _ _ _ _ _ _ _
        | exact Chg.refl _ _

set_option linter.unusedVariables false in
set_option linter.unusedSimpArgs false in
set_option maxHeartbeats 2000000 in
set_option maxRecDepth 100000 in
theorem maps0_3 (md : Int) (B mb ab : Nat) (l0 l1 : List (Int × Int)) (F : Nat → Prop) (s : StepD) (A : Option Addr) (c : Nat) (w : World) (hmd : okI md) (hz0 : l0.length ≤ 549755813888) (hz1 : l1.length ≤ 549755813888) (h : MInv md B mb ab w (l0, l1) F) (hB : B ≤ w.heap.size) (hwh : s.which = 0) (hwhat : s.what = 3) :
    Calls Try.prog 70 #[.agg (s.cells (.slice A s.list.length c)), .pointer (some ⟨ab, 0, none⟩)] w (Stepped (machM md B mb ab) (l0, l1) F s (fun _ e _ => ∃ u pv, e = .panicked [{ v := .iface u pv, recovered := false }]) w) := by
  obtain ⟨p0, p1, F0, F1, hp⟩ := h.parts
  have hst0 := start_facts w (s.cells (.slice A s.list.length c)) #[.int .i64 0, .bool false, .slice none 0 0, .bool false]
  have hP0 := hp.chg (Chg.ofBelow hst0.1 (fun _ => False)) (fun _ _ h => h)
  have hbx : Blk ((w.alloc (.cells (s.cells (.slice A s.list.length c)) 29)).alloc (.cells #[.int .i64 0, .bool false, .slice none 0 0, .bool false] 46)) w.heap.size 29 (s.cells (.slice A s.list.length c)) := (Blk.new _ _ _).alloc _
  have HNF : Hid (¬ F (w.heap.size + 1) ∧ ¬ F w.heap.size) := ⟨fun h => by have := hp.lt _ h; omega, fun h => by have := hp.lt _ h; omega⟩
  have hal : ab < w.heap.size := hp.arr.lt
  have ca0 : w.cell? ⟨ab, 0, none⟩ = some (.pointer (some ⟨p0, 0, none⟩)) := by rw [hp.arr.cell]; rfl
  have ca1 : w.cell? ⟨ab, 1, none⟩ = some (.pointer (some ⟨p1, 0, none⟩)) := by rw [hp.arr.cell]; rfl
  have HB0 := hide hst0
  have HP0 := hide hP0
  have HBX := hide hbx
  clear hp hst0 hP0 hbx h
  unfold StepD.cells at *
  rw [hwhat, hwh] at HB0 HP0 HBX ⊢
  go_enter Try.func70, Try.ntmps70
  go_wp2_with fail
  generalize (w.alloc (.cells #[.int .i64 3, .int .i64 0, .int .i64 s.index, .int .i64 s.bit, .int .i64 s.n, .int .i64 s.key, .int .i64 s.value, .slice A s.list.length c] 29)).alloc (.cells #[.int .i64 0, .bool false, .slice none 0 0, .bool false] 46) = W at *
  have HW : Hid (W.heap.size = w.heap.size + 2) := HB0.out.2.2
  have HCW : Hid (Chg F w W) := Chg.ofBelow HB0.out.1 F
  have b0 : W.cell? ⟨w.heap.size, 0, none⟩ = some (.int .i64 3) := by rw [HBX.out.cell]; rfl
  have b1 : W.cell? ⟨w.heap.size, 1, none⟩ = some (.int .i64 0) := by rw [HBX.out.cell]; rfl
  have b5 : W.cell? ⟨w.heap.size, 5, none⟩ = some (.int .i64 s.key) := by rw [HBX.out.cell]; rfl
  have b6 : W.cell? ⟨w.heap.size, 6, none⟩ = some (.int .i64 s.value) := by rw [HBX.out.cell]; rfl
  have ba0 : W.cell? ⟨ab, 0, none⟩ = some (.pointer (some ⟨p0, 0, none⟩)) := by rw [HP0.out.arr.cell]; rfl
  have ba1 : W.cell? ⟨ab, 1, none⟩ = some (.pointer (some ⟨p1, 0, none⟩)) := by rw [HP0.out.arr.cell]; rfl
  have hz := HB0.out.2.1
  have k0 : W.cell? ⟨w.heap.size + 1, 0, none⟩ = some (.int .i64 0) := by rw [hz.cell]; rfl
  have k1 : W.cell? ⟨w.heap.size + 1, 1, none⟩ = some (.bool false) := by rw [hz.cell]; rfl
  have k2 : W.cell? ⟨w.heap.size + 1, 2, none⟩ = some (.slice none 0 0) := by rw [hz.cell]; rfl
  have k3 : W.cell? ⟨w.heap.size + 1, 3, none⟩ = some (.bool false) := by rw [hz.cell]; rfl
  have f0 := hz.frozen 0
  have f1 := hz.frozen 1
  have f2 := hz.frozen 2
  have f3 := hz.frozen 3
  clear hz
  go_quiet (fail)
  have HPN : Hid (MP md B mb ab (W.drewN nq) l0 l1 F p0 p1 F0 F1) := HP0.out.chg ((Chg.refl (fun _ => False) W).drewN nq) (fun _ _ h => h)
  have HBW : Hid (B ≤ (W.drewN nq).heap.size) := by have := HW.out; show B ≤ W.heap.size; omega
  have HCALL := hide (len_any md mb p0 l0 F0 (W.drewN nq) HPN.out.m0)
  go_wp2_with fail
  refine HCALL.out.mono ?_
  rintro e w1 ⟨rfl, hw1⟩
  have hcw : Chg (fun _ => False) (W.drewN nq) w1 := by rw [hw1]; exact Chg.refl _ _
  have HI1 : Hid (MInv md B mb ab w1 (l0, l1) F) := (HPN.out.chg hcw (fun _ _ h => h)).inv
  have HF1 : Hid (∀ i, F i → F i ∨ w.heap.size ≤ i) := fun i hi => Or.inl hi
  have HN1 : Hid (¬ F (w.heap.size + 1)) := HNF.out.1
  have HC1 : Hid (Chg F w w1) := (HCW.out.drewN nq).trans hcw (fun _ _ h => h.elim)
  have HZ1 : Hid (Blk w1 (w.heap.size + 1) 46 #[.int .i64 0, .bool false, .slice none 0 0, .bool false]) := Blk.chg (w := W.drewN nq) HB0.out.2.1 hcw (fun h => h)
  obtain ⟨FN, hFN⟩ : ∃ FN, FN = F := ⟨_, rfl⟩
  rw [← hFN] at HI1 HN1
  replace HF1 : Hid (∀ i, FN i → F i ∨ w.heap.size ≤ i) := by rw [hFN]; exact HF1.out
  clear hcw hw1
  have hz := HZ1.out
  have k0 : w1.cell? ⟨w.heap.size + 1, 0, none⟩ = some (.int .i64 0) := by rw [hz.cell]; rfl
  have k1 : w1.cell? ⟨w.heap.size + 1, 1, none⟩ = some (.bool false) := by rw [hz.cell]; rfl
  have k2 : w1.cell? ⟨w.heap.size + 1, 2, none⟩ = some (.slice none 0 0) := by rw [hz.cell]; rfl
  have k3 : w1.cell? ⟨w.heap.size + 1, 3, none⟩ = some (.bool false) := by rw [hz.cell]; rfl
  have f0 := hz.frozen 0
  have f1 := hz.frozen 1
  have f2 := hz.frozen 2
  have f3 := hz.frozen 3
  clear hz
  go_upto_region 24 with (fail)
  have HZ2 : Hid (Blk (w1.setCell ⟨w.heap.size + 1, 0, none⟩ (.int .i64 ((l0.length : Nat) : Int))) (w.heap.size + 1) 46 #[.int .i64 ((l0.length : Nat) : Int), .bool false, .slice none 0 0, .bool false]) := (HZ1.out.set_ 0 (.int .i64 ((l0.length : Nat) : Int)))
  have HS2 : Hid (Chg (· = w.heap.size + 1) w1 (w1.setCell ⟨w.heap.size + 1, 0, none⟩ (.int .i64 ((l0.length : Nat) : Int)))) := ((Chg.refl (· = w.heap.size + 1) w1).setCell (p := ⟨w.heap.size + 1, 0, none⟩) (fun _ => rfl) (.int .i64 ((l0.length : Nat) : Int)))
  generalize (w1.setCell ⟨w.heap.size + 1, 0, none⟩ (.int .i64 ((l0.length : Nat) : Int))) = w2 at *
  clear k0 k1 k2 k3 f0 f1 f2 f3
  have k0 : w2.cell? ⟨w.heap.size + 1, 0, none⟩ = some (.int .i64 ((l0.length : Nat) : Int)) := by rw [HZ2.out.cell]; rfl
  have k1 : w2.cell? ⟨w.heap.size + 1, 1, none⟩ = some (.bool false) := by rw [HZ2.out.cell]; rfl
  have k2 : w2.cell? ⟨w.heap.size + 1, 2, none⟩ = some (.slice none 0 0) := by rw [HZ2.out.cell]; rfl
  have k3 : w2.cell? ⟨w.heap.size + 1, 3, none⟩ = some (.bool false) := by rw [HZ2.out.cell]; rfl
  have f0 := HZ2.out.frozen 0
  have f1 := HZ2.out.frozen 1
  have f2 := HZ2.out.frozen 2
  have f3 := HZ2.out.frozen 3
  go_wp2
  refine bodyPost_ret (v := .agg ((⟨(l0.length : Int), false, [], false⟩ : AnsD).cells (.slice none 0 0))) ?_ rfl ?_
  · simp [results, Try.f70, go_sem, k0, k1, k2, k3, AnsD.cells]
  · refine done_ok (machM md B mb ab) (x' := (l0, l1)) (a := ⟨(l0.length : Int), false, [], false⟩) (r := w.heap.size + 1) (w1 := w1) (F1 := FN) (c := 0) ?_ rfl HI1.out HF1.out HN1.out (Nat.le_succ _) HC1.out ?_ SliceIs.none_
    · show ((stepM md (l0, l1) s).1, some (stepM md (l0, l1) s).2) = _
      simp [stepM, stpM, hwhat, hwh]
    · exact HS2.out.trans (set4_chg _ _ _ _ _ _) (fun _ _ h => h)

set_option linter.unusedVariables false in
set_option linter.unusedSimpArgs false in
set_option maxHeartbeats 2000000 in
set_option maxRecDepth 100000 in
theorem maps0_4 (md : Int) (B mb ab : Nat) (l0 l1 : List (Int × Int)) (F : Nat → Prop) (s : StepD) (A : Option Addr) (c : Nat) (w : World) (hmd : okI md) (hz0 : l0.length ≤ 549755813888) (hz1 : l1.length ≤ 549755813888) (h : MInv md B mb ab w (l0, l1) F) (hB : B ≤ w.heap.size) (hwh : s.which = 0) (hwhat : s.what = 4) :
    Calls Try.prog 70 #[.agg (s.cells (.slice A s.list.length c)), .pointer (some ⟨ab, 0, none⟩)] w (Stepped (machM md B mb ab) (l0, l1) F s (fun _ e _ => ∃ u pv, e = .panicked [{ v := .iface u pv, recovered := false }]) w) := by
  obtain ⟨p0, p1, F0, F1, hp⟩ := h.parts
  have hst0 := start_facts w (s.cells (.slice A s.list.length c)) #[.int .i64 0, .bool false, .slice none 0 0, .bool false]
  have hP0 := hp.chg (Chg.ofBelow hst0.1 (fun _ => False)) (fun _ _ h => h)
  have hbx : Blk ((w.alloc (.cells (s.cells (.slice A s.list.length c)) 29)).alloc (.cells #[.int .i64 0, .bool false, .slice none 0 0, .bool false] 46)) w.heap.size 29 (s.cells (.slice A s.list.length c)) := (Blk.new _ _ _).alloc _
  have HNF : Hid (¬ F (w.heap.size + 1) ∧ ¬ F w.heap.size) := ⟨fun h => by have := hp.lt _ h; omega, fun h => by have := hp.lt _ h; omega⟩
  have hal : ab < w.heap.size := hp.arr.lt
  have ca0 : w.cell? ⟨ab, 0, none⟩ = some (.pointer (some ⟨p0, 0, none⟩)) := by rw [hp.arr.cell]; rfl
  have ca1 : w.cell? ⟨ab, 1, none⟩ = some (.pointer (some ⟨p1, 0, none⟩)) := by rw [hp.arr.cell]; rfl
  have HB0 := hide hst0
  have HP0 := hide hP0
  have HBX := hide hbx
  clear hp hst0 hP0 hbx h
  unfold StepD.cells at *
  rw [hwhat, hwh] at HB0 HP0 HBX ⊢
  go_enter Try.func70, Try.ntmps70
  go_wp2_with fail
  generalize (w.alloc (.cells #[.int .i64 4, .int .i64 0, .int .i64 s.index, .int .i64 s.bit, .int .i64 s.n, .int .i64 s.key, .int .i64 s.value, .slice A s.list.length c] 29)).alloc (.cells #[.int .i64 0, .bool false, .slice none 0 0, .bool false] 46) = W at *
  have HW : Hid (W.heap.size = w.heap.size + 2) := HB0.out.2.2
  have HCW : Hid (Chg F w W) := Chg.ofBelow HB0.out.1 F
  have b0 : W.cell? ⟨w.heap.size, 0, none⟩ = some (.int .i64 4) := by rw [HBX.out.cell]; rfl
  have b1 : W.cell? ⟨w.heap.size, 1, none⟩ = some (.int .i64 0) := by rw [HBX.out.cell]; rfl
  have b5 : W.cell? ⟨w.heap.size, 5, none⟩ = some (.int .i64 s.key) := by rw [HBX.out.cell]; rfl
  have b6 : W.cell? ⟨w.heap.size, 6, none⟩ = some (.int .i64 s.value) := by rw [HBX.out.cell]; rfl
  have ba0 : W.cell? ⟨ab, 0, none⟩ = some (.pointer (some ⟨p0, 0, none⟩)) := by rw [HP0.out.arr.cell]; rfl
  have ba1 : W.cell? ⟨ab, 1, none⟩ = some (.pointer (some ⟨p1, 0, none⟩)) := by rw [HP0.out.arr.cell]; rfl
  have hz := HB0.out.2.1
  have k0 : W.cell? ⟨w.heap.size + 1, 0, none⟩ = some (.int .i64 0) := by rw [hz.cell]; rfl
  have k1 : W.cell? ⟨w.heap.size + 1, 1, none⟩ = some (.bool false) := by rw [hz.cell]; rfl
  have k2 : W.cell? ⟨w.heap.size + 1, 2, none⟩ = some (.slice none 0 0) := by rw [hz.cell]; rfl
  have k3 : W.cell? ⟨w.heap.size + 1, 3, none⟩ = some (.bool false) := by rw [hz.cell]; rfl
  have f0 := hz.frozen 0
  have f1 := hz.frozen 1
  have f2 := hz.frozen 2
  have f3 := hz.frozen 3
  clear hz
  go_quiet (fail)
  have HPN : Hid (MP md B mb ab (W.drewN nq) l0 l1 F p0 p1 F0 F1) := HP0.out.chg ((Chg.refl (fun _ => False) W).drewN nq) (fun _ _ h => h)
  have HBW : Hid (B ≤ (W.drewN nq).heap.size) := by have := HW.out; show B ≤ W.heap.size; omega
  have HPA : Hid (∀ n, MP md B mb ab (W.drewN n) l0 l1 F p0 p1 F0 F1) := fun n => HP0.out.chg ((Chg.refl (fun _ => False) W).drewN n) (fun _ _ h => h)
  have HCALL : Hid (∀ n, Calls Try.prog 75 #[.pointer (some ⟨p0, 0, none⟩)] (W.drewN n) fun e w' => ∃ p', e = .returned (.pointer (some ⟨p', 0, none⟩)) ∧ HNew md mb l0 W.heap.size w' p' ∧ Below W.heap.size W w') := fun n => by
    refine (copy_any md mb p0 l0 F0 (W.drewN n) (HPA.out n).m0 hmd (by omega)).mono ?_
    rintro e w' ⟨p', h1, h2, h3⟩
    exact ⟨p', h1, h2, ⟨h3.os, h3.tape, h3.output, h3.size, h3.block⟩⟩
  have hs1 : ((1 : Int) - 0) = 1 := rfl
  have hs2 : IntKind.i64.wrap ((1 : Int) - 0) = 1 := by rw [IntKind.wrap_i64] <;> decide
  have hs3 : IntKind.i64.wrap (1 : Int) = 1 := by rw [IntKind.wrap_i64] <;> decide
  have hs4 : IntKind.i64.wrap (0 : Int) = 0 := by rw [IntKind.wrap_i64] <;> decide
  go_wp2_with fail
  go_region_held3 (fun w' => w'.cell? ⟨w.heap.size, 1, none⟩ = some (.int .i64 0)) (first | with_reducible exact hb3 | with_reducible exact (HSA _).out | go_keep)
    (first
      | (go_at_call 75
         refine (HCALL.out _).mono ?_
         rintro e w3 ⟨p', rfl, hn3, hbl3⟩
         have hx3 : Blk w3 w.heap.size 29 #[.int .i64 4, .int .i64 0, .int .i64 s.index, .int .i64 s.bit, .int .i64 s.n, .int .i64 s.key, .int .i64 s.value, .slice A s.list.length c] := HBX.out.below hbl3 HBX.out.lt
         have ha3 := HP0.out.arr.below hbl3 HP0.out.arr.lt
         have hz3 : Blk w3 (w.heap.size + 1) 46 #[.int .i64 0, .bool false, .slice none 0 0, .bool false] := HB0.out.2.1.below hbl3 HB0.out.2.1.lt
         have hb3 : w3.cell? ⟨w.heap.size, 1, none⟩ = some (.int .i64 0) := by rw [hx3.cell]; rfl
         have HSA : ∀ v, Hid ((w3.setCell ⟨ab, 1, none⟩ v).cell? ⟨w.heap.size, 1, none⟩ = some (.int .i64 0)) := fun v => by
           have := hx3.far (p := ⟨ab, 1, none⟩) (show w.heap.size ≠ ab by omega) v
           show _ = _
           rw [this.cell]; rfl
         have a30 : w3.cell? ⟨ab, 0, none⟩ = some (.pointer (some ⟨p0, 0, none⟩)) := by rw [ha3.cell]; rfl
         have a31 : w3.cell? ⟨ab, 1, none⟩ = some (.pointer (some ⟨p1, 0, none⟩)) := by rw [ha3.cell]; rfl
         have af0 := ha3.frozen 0
         have af1 := ha3.frozen 1
         have HN3 := hide hn3
         have HBL3 := hide hbl3
         have HZ3 := hide hz3
         clear hn3 hbl3 hx3 ha3 hz3)
      | fail)
  all_goals
    obtain ⟨FN, g1, g2, g3⟩ := MP.set1 HP0.out HN3.out HBL3.out (by have := HW.out; omega)
    have HI1 := hide g1
    have HF1 : Hid (∀ i, FN i → F i ∨ w.heap.size ≤ i) := fun i hi => (g2 i hi).imp id (fun h => by have := HW.out; omega)
    have HN1 : Hid (¬ FN (w.heap.size + 1)) := fun hi => by
      rcases g2 _ hi with h | h
      · exact HNF.out.1 h
      · have := HW.out; omega
    have HC1 : Hid (Chg F w (w3.setCell ⟨ab, 1, none⟩ (.pointer (some ⟨p', 0, none⟩)))) := HCW.out.trans g3 (fun _ _ h => h)
    have HZ1 : Hid (Blk (w3.setCell ⟨ab, 1, none⟩ (.pointer (some ⟨p', 0, none⟩))) (w.heap.size + 1) 46 #[.int .i64 0, .bool false, .slice none 0 0, .bool false]) := HZ3.out.far (show w.heap.size + 1 ≠ ab by omega) _
    clear g1 g2 g3 k0 k1 k2 k3 f0 f1 f2 f3
    generalize w3.setCell ⟨ab, 1, none⟩ (.pointer (some ⟨p', 0, none⟩)) = w1 at *
    have hz := HZ1.out
    have k0 : w1.cell? ⟨w.heap.size + 1, 0, none⟩ = some (.int .i64 0) := by rw [hz.cell]; rfl
    have k1 : w1.cell? ⟨w.heap.size + 1, 1, none⟩ = some (.bool false) := by rw [hz.cell]; rfl
    have k2 : w1.cell? ⟨w.heap.size + 1, 2, none⟩ = some (.slice none 0 0) := by rw [hz.cell]; rfl
    have k3 : w1.cell? ⟨w.heap.size + 1, 3, none⟩ = some (.bool false) := by rw [hz.cell]; rfl
    have f0 := hz.frozen 0
    have f1 := hz.frozen 1
    have f2 := hz.frozen 2
    have f3 := hz.frozen 3
    clear hz
    go_wp2
    refine bodyPost_ret (v := .agg ((zeroAns : AnsD).cells (.slice none 0 0))) ?_ rfl ?_
    · simp [results, Try.f70, go_sem, k0, k1, k2, k3, AnsD.cells, zeroAns]
    · refine done_ok (machM md B mb ab) (x' := (l0, l0)) (a := zeroAns) (r := w.heap.size + 1) (w1 := w1) (F1 := FN) (c := 0) ?_ rfl HI1.out HF1.out HN1.out (Nat.le_succ _) HC1.out ?_ SliceIs.none_
      · show ((stepM md (l0, l1) s).1, some (stepM md (l0, l1) s).2) = _
        simp [stepM, stpM, hwhat, hwh]
      · first
          | exact set4_chg _ _ _ _ _ _
          | exact set5_chg _ _ _ _ _ _ _
          | exact set6_chg _ _ _ _ _ _ _ _
          | exact Chg.refl _ _

set_option linter.unusedVariables false in
set_option linter.unusedSimpArgs false in
set_option maxHeartbeats 2000000 in
set_option maxRecDepth 100000 in
theorem maps0_5 (md : Int) (B mb ab : Nat) (l0 l1 : List (Int × Int)) (F : Nat → Prop) (s : StepD) (A : Option Addr) (c : Nat) (w : World) (hmd : okI md) (hz0 : l0.length ≤ 549755813888) (hz1 : l1.length ≤ 549755813888) (h : MInv md B mb ab w (l0, l1) F) (hB : B ≤ w.heap.size) (hwh : s.which = 0) (hwhat : s.what = 5) :
    Calls Try.prog 70 #[.agg (s.cells (.slice A s.list.length c)), .pointer (some ⟨ab, 0, none⟩)] w (Stepped (machM md B mb ab) (l0, l1) F s (fun _ e _ => ∃ u pv, e = .panicked [{ v := .iface u pv, recovered := false }]) w) := by
  obtain ⟨p0, p1, F0, F1, hp⟩ := h.parts
  have hst0 := start_facts w (s.cells (.slice A s.list.length c)) #[.int .i64 0, .bool false, .slice none 0 0, .bool false]
  have hP0 := hp.chg (Chg.ofBelow hst0.1 (fun _ => False)) (fun _ _ h => h)
  have hbx : Blk ((w.alloc (.cells (s.cells (.slice A s.list.length c)) 29)).alloc (.cells #[.int .i64 0, .bool false, .slice none 0 0, .bool false] 46)) w.heap.size 29 (s.cells (.slice A s.list.length c)) := (Blk.new _ _ _).alloc _
  have HNF : Hid (¬ F (w.heap.size + 1) ∧ ¬ F w.heap.size) := ⟨fun h => by have := hp.lt _ h; omega, fun h => by have := hp.lt _ h; omega⟩
  have hal : ab < w.heap.size := hp.arr.lt
  have ca0 : w.cell? ⟨ab, 0, none⟩ = some (.pointer (some ⟨p0, 0, none⟩)) := by rw [hp.arr.cell]; rfl
  have ca1 : w.cell? ⟨ab, 1, none⟩ = some (.pointer (some ⟨p1, 0, none⟩)) := by rw [hp.arr.cell]; rfl
  have HB0 := hide hst0
  have HP0 := hide hP0
  have HBX := hide hbx
  clear hp hst0 hP0 hbx h
  unfold StepD.cells at *
  rw [hwhat, hwh] at HB0 HP0 HBX ⊢
  go_enter Try.func70, Try.ntmps70
  go_wp2_with fail
  generalize (w.alloc (.cells #[.int .i64 5, .int .i64 0, .int .i64 s.index, .int .i64 s.bit, .int .i64 s.n, .int .i64 s.key, .int .i64 s.value, .slice A s.list.length c] 29)).alloc (.cells #[.int .i64 0, .bool false, .slice none 0 0, .bool false] 46) = W at *
  have HW : Hid (W.heap.size = w.heap.size + 2) := HB0.out.2.2
  have HCW : Hid (Chg F w W) := Chg.ofBelow HB0.out.1 F
  have b0 : W.cell? ⟨w.heap.size, 0, none⟩ = some (.int .i64 5) := by rw [HBX.out.cell]; rfl
  have b1 : W.cell? ⟨w.heap.size, 1, none⟩ = some (.int .i64 0) := by rw [HBX.out.cell]; rfl
  have b5 : W.cell? ⟨w.heap.size, 5, none⟩ = some (.int .i64 s.key) := by rw [HBX.out.cell]; rfl
  have b6 : W.cell? ⟨w.heap.size, 6, none⟩ = some (.int .i64 s.value) := by rw [HBX.out.cell]; rfl
  have ba0 : W.cell? ⟨ab, 0, none⟩ = some (.pointer (some ⟨p0, 0, none⟩)) := by rw [HP0.out.arr.cell]; rfl
  have ba1 : W.cell? ⟨ab, 1, none⟩ = some (.pointer (some ⟨p1, 0, none⟩)) := by rw [HP0.out.arr.cell]; rfl
  have hz := HB0.out.2.1
  have k0 : W.cell? ⟨w.heap.size + 1, 0, none⟩ = some (.int .i64 0) := by rw [hz.cell]; rfl
  have k1 : W.cell? ⟨w.heap.size + 1, 1, none⟩ = some (.bool false) := by rw [hz.cell]; rfl
  have k2 : W.cell? ⟨w.heap.size + 1, 2, none⟩ = some (.slice none 0 0) := by rw [hz.cell]; rfl
  have k3 : W.cell? ⟨w.heap.size + 1, 3, none⟩ = some (.bool false) := by rw [hz.cell]; rfl
  have f0 := hz.frozen 0
  have f1 := hz.frozen 1
  have f2 := hz.frozen 2
  have f3 := hz.frozen 3
  clear hz
  go_quiet (fail)
  have HPN : Hid (MP md B mb ab (W.drewN nq) l0 l1 F p0 p1 F0 F1) := HP0.out.chg ((Chg.refl (fun _ => False) W).drewN nq) (fun _ _ h => h)
  have HBW : Hid (B ≤ (W.drewN nq).heap.size) := by have := HW.out; show B ≤ W.heap.size; omega
  have HCALL := hide (equal_any md mb p0 p1 l0 l1 F0 F1 (W.drewN nq) HPN.out.m0 HPN.out.m1 hmd HPN.out.dis)
  go_wp2_with fail
  refine HCALL.out.mono ?_
  rintro e w1 ⟨rfl, hw1⟩
  have hcw : Chg (fun _ => False) (W.drewN nq) w1 := Chg.ofBelow hw1 _
  have HI1 : Hid (MInv md B mb ab w1 (l0, l1) F) := (HPN.out.chg hcw (fun _ _ h => h)).inv
  have HF1 : Hid (∀ i, F i → F i ∨ w.heap.size ≤ i) := fun i hi => Or.inl hi
  have HN1 : Hid (¬ F (w.heap.size + 1)) := HNF.out.1
  have HC1 : Hid (Chg F w w1) := (HCW.out.drewN nq).trans hcw (fun _ _ h => h.elim)
  have HZ1 : Hid (Blk w1 (w.heap.size + 1) 46 #[.int .i64 0, .bool false, .slice none 0 0, .bool false]) := Blk.chg (w := W.drewN nq) HB0.out.2.1 hcw (fun h => h)
  obtain ⟨FN, hFN⟩ : ∃ FN, FN = F := ⟨_, rfl⟩
  rw [← hFN] at HI1 HN1
  replace HF1 : Hid (∀ i, FN i → F i ∨ w.heap.size ≤ i) := by rw [hFN]; exact HF1.out
  clear hcw hw1
  have hz := HZ1.out
  have k0 : w1.cell? ⟨w.heap.size + 1, 0, none⟩ = some (.int .i64 0) := by rw [hz.cell]; rfl
  have k1 : w1.cell? ⟨w.heap.size + 1, 1, none⟩ = some (.bool false) := by rw [hz.cell]; rfl
  have k2 : w1.cell? ⟨w.heap.size + 1, 2, none⟩ = some (.slice none 0 0) := by rw [hz.cell]; rfl
  have k3 : w1.cell? ⟨w.heap.size + 1, 3, none⟩ = some (.bool false) := by rw [hz.cell]; rfl
  have f0 := hz.frozen 0
  have f1 := hz.frozen 1
  have f2 := hz.frozen 2
  have f3 := hz.frozen 3
  clear hz
  go_upto_region 24 with (fail)
  have HZ2 : Hid (Blk (w1.setCell ⟨w.heap.size + 1, 1, none⟩ (.bool (eqA l0 l1))) (w.heap.size + 1) 46 #[.int .i64 0, .bool (eqA l0 l1), .slice none 0 0, .bool false]) := (HZ1.out.set_ 1 (.bool (eqA l0 l1)))
  have HS2 : Hid (Chg (· = w.heap.size + 1) w1 (w1.setCell ⟨w.heap.size + 1, 1, none⟩ (.bool (eqA l0 l1)))) := ((Chg.refl (· = w.heap.size + 1) w1).setCell (p := ⟨w.heap.size + 1, 1, none⟩) (fun _ => rfl) (.bool (eqA l0 l1)))
  generalize (w1.setCell ⟨w.heap.size + 1, 1, none⟩ (.bool (eqA l0 l1))) = w2 at *
  clear k0 k1 k2 k3 f0 f1 f2 f3
  have k0 : w2.cell? ⟨w.heap.size + 1, 0, none⟩ = some (.int .i64 0) := by rw [HZ2.out.cell]; rfl
  have k1 : w2.cell? ⟨w.heap.size + 1, 1, none⟩ = some (.bool (eqA l0 l1)) := by rw [HZ2.out.cell]; rfl
  have k2 : w2.cell? ⟨w.heap.size + 1, 2, none⟩ = some (.slice none 0 0) := by rw [HZ2.out.cell]; rfl
  have k3 : w2.cell? ⟨w.heap.size + 1, 3, none⟩ = some (.bool false) := by rw [HZ2.out.cell]; rfl
  have f0 := HZ2.out.frozen 0
  have f1 := HZ2.out.frozen 1
  have f2 := HZ2.out.frozen 2
  have f3 := HZ2.out.frozen 3
  go_wp2
  refine bodyPost_ret (v := .agg ((⟨0, eqA l0 l1, [], false⟩ : AnsD).cells (.slice none 0 0))) ?_ rfl ?_
  · simp [results, Try.f70, go_sem, k0, k1, k2, k3, AnsD.cells]
  · refine done_ok (machM md B mb ab) (x' := (l0, l1)) (a := ⟨0, eqA l0 l1, [], false⟩) (r := w.heap.size + 1) (w1 := w1) (F1 := FN) (c := 0) ?_ rfl HI1.out HF1.out HN1.out (Nat.le_succ _) HC1.out ?_ SliceIs.none_
    · show ((stepM md (l0, l1) s).1, some (stepM md (l0, l1) s).2) = _
      simp [stepM, stpM, hwhat, hwh]
    · exact HS2.out.trans (set4_chg _ _ _ _ _ _) (fun _ _ h => h)

set_option linter.unusedVariables false in
set_option linter.unusedSimpArgs false in
set_option maxHeartbeats 2000000 in
set_option maxRecDepth 100000 in
theorem maps0_6 (md : Int) (B mb ab : Nat) (l0 l1 : List (Int × Int)) (F : Nat → Prop) (s : StepD) (A : Option Addr) (c : Nat) (w : World) (hmd : okI md) (hz0 : l0.length ≤ 549755813888) (hz1 : l1.length ≤ 549755813888) (h : MInv md B mb ab w (l0, l1) F) (hB : B ≤ w.heap.size) (hwh : s.which = 0) (hwhat : s.what = 6) :
    Calls Try.prog 70 #[.agg (s.cells (.slice A s.list.length c)), .pointer (some ⟨ab, 0, none⟩)] w (Stepped (machM md B mb ab) (l0, l1) F s (fun _ e _ => ∃ u pv, e = .panicked [{ v := .iface u pv, recovered := false }]) w) := by
  obtain ⟨p0, p1, F0, F1, hp⟩ := h.parts
  have hst0 := start_facts w (s.cells (.slice A s.list.length c)) #[.int .i64 0, .bool false, .slice none 0 0, .bool false]
  have hP0 := hp.chg (Chg.ofBelow hst0.1 (fun _ => False)) (fun _ _ h => h)
  have hbx : Blk ((w.alloc (.cells (s.cells (.slice A s.list.length c)) 29)).alloc (.cells #[.int .i64 0, .bool false, .slice none 0 0, .bool false] 46)) w.heap.size 29 (s.cells (.slice A s.list.length c)) := (Blk.new _ _ _).alloc _
  have HNF : Hid (¬ F (w.heap.size + 1) ∧ ¬ F w.heap.size) := ⟨fun h => by have := hp.lt _ h; omega, fun h => by have := hp.lt _ h; omega⟩
  have hal : ab < w.heap.size := hp.arr.lt
  have ca0 : w.cell? ⟨ab, 0, none⟩ = some (.pointer (some ⟨p0, 0, none⟩)) := by rw [hp.arr.cell]; rfl
  have ca1 : w.cell? ⟨ab, 1, none⟩ = some (.pointer (some ⟨p1, 0, none⟩)) := by rw [hp.arr.cell]; rfl
  have HB0 := hide hst0
  have HP0 := hide hP0
  have HBX := hide hbx
  clear hp hst0 hP0 hbx h
  unfold StepD.cells at *
  rw [hwhat, hwh] at HB0 HP0 HBX ⊢
  go_enter Try.func70, Try.ntmps70
  go_wp2_with fail
  generalize (w.alloc (.cells #[.int .i64 6, .int .i64 0, .int .i64 s.index, .int .i64 s.bit, .int .i64 s.n, .int .i64 s.key, .int .i64 s.value, .slice A s.list.length c] 29)).alloc (.cells #[.int .i64 0, .bool false, .slice none 0 0, .bool false] 46) = W at *
  have HW : Hid (W.heap.size = w.heap.size + 2) := HB0.out.2.2
  have HCW : Hid (Chg F w W) := Chg.ofBelow HB0.out.1 F
  have b0 : W.cell? ⟨w.heap.size, 0, none⟩ = some (.int .i64 6) := by rw [HBX.out.cell]; rfl
  have b1 : W.cell? ⟨w.heap.size, 1, none⟩ = some (.int .i64 0) := by rw [HBX.out.cell]; rfl
  have b5 : W.cell? ⟨w.heap.size, 5, none⟩ = some (.int .i64 s.key) := by rw [HBX.out.cell]; rfl
  have b6 : W.cell? ⟨w.heap.size, 6, none⟩ = some (.int .i64 s.value) := by rw [HBX.out.cell]; rfl
  have ba0 : W.cell? ⟨ab, 0, none⟩ = some (.pointer (some ⟨p0, 0, none⟩)) := by rw [HP0.out.arr.cell]; rfl
  have ba1 : W.cell? ⟨ab, 1, none⟩ = some (.pointer (some ⟨p1, 0, none⟩)) := by rw [HP0.out.arr.cell]; rfl
  have hz := HB0.out.2.1
  have k0 : W.cell? ⟨w.heap.size + 1, 0, none⟩ = some (.int .i64 0) := by rw [hz.cell]; rfl
  have k1 : W.cell? ⟨w.heap.size + 1, 1, none⟩ = some (.bool false) := by rw [hz.cell]; rfl
  have k2 : W.cell? ⟨w.heap.size + 1, 2, none⟩ = some (.slice none 0 0) := by rw [hz.cell]; rfl
  have k3 : W.cell? ⟨w.heap.size + 1, 3, none⟩ = some (.bool false) := by rw [hz.cell]; rfl
  have f0 := hz.frozen 0
  have f1 := hz.frozen 1
  have f2 := hz.frozen 2
  have f3 := hz.frozen 3
  clear hz
  go_quiet (fail)
  have HPN : Hid (MP md B mb ab (W.drewN nq) l0 l1 F p0 p1 F0 F1) := HP0.out.chg ((Chg.refl (fun _ => False) W).drewN nq) (fun _ _ h => h)
  have HBW : Hid (B ≤ (W.drewN nq).heap.size) := by have := HW.out; show B ≤ W.heap.size; omega
  have HPA : Hid (∀ n, MP md B mb ab (W.drewN n) l0 l1 F p0 p1 F0 F1) := fun n => HP0.out.chg ((Chg.refl (fun _ => False) W).drewN n) (fun _ _ h => h)
  have HCALL : Hid (∀ n, Calls Try.prog 77 #[.pointer (some ⟨p0, 0, none⟩), .pointer (some ⟨p1, 0, none⟩)] (W.drewN n) fun e w' => ∃ p', e = .returned (.pointer (some ⟨p', 0, none⟩)) ∧ HNew md mb (putAll l0 l1) W.heap.size w' p' ∧ Below W.heap.size W w') := fun n => by
    refine (update_any md mb p0 p1 l0 l1 F0 F1 (W.drewN n) (HPA.out n).m0 (HPA.out n).m1 hmd (by omega)).mono ?_
    rintro e w' ⟨p', h1, h2, h3⟩
    exact ⟨p', h1, h2, ⟨h3.os, h3.tape, h3.output, h3.size, h3.block⟩⟩
  have hs1 : ((1 : Int) - 0) = 1 := rfl
  have hs2 : IntKind.i64.wrap ((1 : Int) - 0) = 1 := by rw [IntKind.wrap_i64] <;> decide
  have hs3 : IntKind.i64.wrap (1 : Int) = 1 := by rw [IntKind.wrap_i64] <;> decide
  have hs4 : IntKind.i64.wrap (0 : Int) = 0 := by rw [IntKind.wrap_i64] <;> decide
  go_wp2_with fail
  go_region_held3 (fun w' => w'.cell? ⟨w.heap.size, 1, none⟩ = some (.int .i64 0)) (first | with_reducible exact hb3 | with_reducible exact (HSA _).out | go_keep)
    (first
      | (go_at_call 77
         refine (HCALL.out _).mono ?_
         rintro e w3 ⟨p', rfl, hn3, hbl3⟩
         have hx3 : Blk w3 w.heap.size 29 #[.int .i64 6, .int .i64 0, .int .i64 s.index, .int .i64 s.bit, .int .i64 s.n, .int .i64 s.key, .int .i64 s.value, .slice A s.list.length c] := HBX.out.below hbl3 HBX.out.lt
         have ha3 := HP0.out.arr.below hbl3 HP0.out.arr.lt
         have hz3 : Blk w3 (w.heap.size + 1) 46 #[.int .i64 0, .bool false, .slice none 0 0, .bool false] := HB0.out.2.1.below hbl3 HB0.out.2.1.lt
         have hb3 : w3.cell? ⟨w.heap.size, 1, none⟩ = some (.int .i64 0) := by rw [hx3.cell]; rfl
         have HSA : ∀ v, Hid ((w3.setCell ⟨ab, 0, none⟩ v).cell? ⟨w.heap.size, 1, none⟩ = some (.int .i64 0)) := fun v => by
           have := hx3.far (p := ⟨ab, 0, none⟩) (show w.heap.size ≠ ab by omega) v
           show _ = _
           rw [this.cell]; rfl
         have a30 : w3.cell? ⟨ab, 0, none⟩ = some (.pointer (some ⟨p0, 0, none⟩)) := by rw [ha3.cell]; rfl
         have a31 : w3.cell? ⟨ab, 1, none⟩ = some (.pointer (some ⟨p1, 0, none⟩)) := by rw [ha3.cell]; rfl
         have af0 := ha3.frozen 0
         have af1 := ha3.frozen 1
         have HN3 := hide hn3
         have HBL3 := hide hbl3
         have HZ3 := hide hz3
         clear hn3 hbl3 hx3 ha3 hz3)
      | fail)
  all_goals
    obtain ⟨FN, g1, g2, g3⟩ := MP.set0 HP0.out HN3.out HBL3.out (by have := HW.out; omega)
    have HI1 := hide g1
    have HF1 : Hid (∀ i, FN i → F i ∨ w.heap.size ≤ i) := fun i hi => (g2 i hi).imp id (fun h => by have := HW.out; omega)
    have HN1 : Hid (¬ FN (w.heap.size + 1)) := fun hi => by
      rcases g2 _ hi with h | h
      · exact HNF.out.1 h
      · have := HW.out; omega
    have HC1 : Hid (Chg F w (w3.setCell ⟨ab, 0, none⟩ (.pointer (some ⟨p', 0, none⟩)))) := HCW.out.trans g3 (fun _ _ h => h)
    have HZ1 : Hid (Blk (w3.setCell ⟨ab, 0, none⟩ (.pointer (some ⟨p', 0, none⟩))) (w.heap.size + 1) 46 #[.int .i64 0, .bool false, .slice none 0 0, .bool false]) := HZ3.out.far (show w.heap.size + 1 ≠ ab by omega) _
    clear g1 g2 g3 k0 k1 k2 k3 f0 f1 f2 f3
    generalize w3.setCell ⟨ab, 0, none⟩ (.pointer (some ⟨p', 0, none⟩)) = w1 at *
    have hz := HZ1.out
    have k0 : w1.cell? ⟨w.heap.size + 1, 0, none⟩ = some (.int .i64 0) := by rw [hz.cell]; rfl
    have k1 : w1.cell? ⟨w.heap.size + 1, 1, none⟩ = some (.bool false) := by rw [hz.cell]; rfl
    have k2 : w1.cell? ⟨w.heap.size + 1, 2, none⟩ = some (.slice none 0 0) := by rw [hz.cell]; rfl
    have k3 : w1.cell? ⟨w.heap.size + 1, 3, none⟩ = some (.bool false) := by rw [hz.cell]; rfl
    have f0 := hz.frozen 0
    have f1 := hz.frozen 1
    have f2 := hz.frozen 2
    have f3 := hz.frozen 3
    clear hz
    go_wp2
    refine bodyPost_ret (v := .agg ((zeroAns : AnsD).cells (.slice none 0 0))) ?_ rfl ?_
    · simp [results, Try.f70, go_sem, k0, k1, k2, k3, AnsD.cells, zeroAns]
    · refine done_ok (machM md B mb ab) (x' := ((putAll l0 l1), l1)) (a := zeroAns) (r := w.heap.size + 1) (w1 := w1) (F1 := FN) (c := 0) ?_ rfl HI1.out HF1.out HN1.out (Nat.le_succ _) HC1.out ?_ SliceIs.none_
      · show ((stepM md (l0, l1) s).1, some (stepM md (l0, l1) s).2) = _
        simp [stepM, stpM, hwhat, hwh]
      · first
          | exact set4_chg _ _ _ _ _ _
          | exact set5_chg _ _ _ _ _ _ _
          | exact set6_chg _ _ _ _ _ _ _ _
          | exact Chg.refl _ _

set_option linter.unusedVariables false in
set_option linter.unusedSimpArgs false in
set_option maxHeartbeats 2000000 in
set_option maxRecDepth 100000 in
theorem maps0_7 (md : Int) (B mb ab : Nat) (l0 l1 : List (Int × Int)) (F : Nat → Prop) (s : StepD) (A : Option Addr) (c : Nat) (w : World) (hmd : okI md) (hz0 : l0.length ≤ 549755813888) (hz1 : l1.length ≤ 549755813888) (h : MInv md B mb ab w (l0, l1) F) (hB : B ≤ w.heap.size) (hwh : s.which = 0) (hwhat : s.what = 7) :
    Calls Try.prog 70 #[.agg (s.cells (.slice A s.list.length c)), .pointer (some ⟨ab, 0, none⟩)] w (Stepped (machM md B mb ab) (l0, l1) F s (fun _ e _ => ∃ u pv, e = .panicked [{ v := .iface u pv, recovered := false }]) w) := by
  obtain ⟨p0, p1, F0, F1, hp⟩ := h.parts
  have hst0 := start_facts w (s.cells (.slice A s.list.length c)) #[.int .i64 0, .bool false, .slice none 0 0, .bool false]
  have hP0 := hp.chg (Chg.ofBelow hst0.1 (fun _ => False)) (fun _ _ h => h)
  have hbx : Blk ((w.alloc (.cells (s.cells (.slice A s.list.length c)) 29)).alloc (.cells #[.int .i64 0, .bool false, .slice none 0 0, .bool false] 46)) w.heap.size 29 (s.cells (.slice A s.list.length c)) := (Blk.new _ _ _).alloc _
  have HNF : Hid (¬ F (w.heap.size + 1) ∧ ¬ F w.heap.size) := ⟨fun h => by have := hp.lt _ h; omega, fun h => by have := hp.lt _ h; omega⟩
  have hal : ab < w.heap.size := hp.arr.lt
  have ca0 : w.cell? ⟨ab, 0, none⟩ = some (.pointer (some ⟨p0, 0, none⟩)) := by rw [hp.arr.cell]; rfl
  have ca1 : w.cell? ⟨ab, 1, none⟩ = some (.pointer (some ⟨p1, 0, none⟩)) := by rw [hp.arr.cell]; rfl
  have HB0 := hide hst0
  have HP0 := hide hP0
  have HBX := hide hbx
  clear hp hst0 hP0 hbx h
  unfold StepD.cells at *
  rw [hwhat, hwh] at HB0 HP0 HBX ⊢
  go_enter Try.func70, Try.ntmps70
  go_wp2_with fail
  generalize (w.alloc (.cells #[.int .i64 7, .int .i64 0, .int .i64 s.index, .int .i64 s.bit, .int .i64 s.n, .int .i64 s.key, .int .i64 s.value, .slice A s.list.length c] 29)).alloc (.cells #[.int .i64 0, .bool false, .slice none 0 0, .bool false] 46) = W at *
  have HW : Hid (W.heap.size = w.heap.size + 2) := HB0.out.2.2
  have HCW : Hid (Chg F w W) := Chg.ofBelow HB0.out.1 F
  have b0 : W.cell? ⟨w.heap.size, 0, none⟩ = some (.int .i64 7) := by rw [HBX.out.cell]; rfl
  have b1 : W.cell? ⟨w.heap.size, 1, none⟩ = some (.int .i64 0) := by rw [HBX.out.cell]; rfl
  have b5 : W.cell? ⟨w.heap.size, 5, none⟩ = some (.int .i64 s.key) := by rw [HBX.out.cell]; rfl
  have b6 : W.cell? ⟨w.heap.size, 6, none⟩ = some (.int .i64 s.value) := by rw [HBX.out.cell]; rfl
  have ba0 : W.cell? ⟨ab, 0, none⟩ = some (.pointer (some ⟨p0, 0, none⟩)) := by rw [HP0.out.arr.cell]; rfl
  have ba1 : W.cell? ⟨ab, 1, none⟩ = some (.pointer (some ⟨p1, 0, none⟩)) := by rw [HP0.out.arr.cell]; rfl
  have hz := HB0.out.2.1
  have k0 : W.cell? ⟨w.heap.size + 1, 0, none⟩ = some (.int .i64 0) := by rw [hz.cell]; rfl
  have k1 : W.cell? ⟨w.heap.size + 1, 1, none⟩ = some (.bool false) := by rw [hz.cell]; rfl
  have k2 : W.cell? ⟨w.heap.size + 1, 2, none⟩ = some (.slice none 0 0) := by rw [hz.cell]; rfl
  have k3 : W.cell? ⟨w.heap.size + 1, 3, none⟩ = some (.bool false) := by rw [hz.cell]; rfl
  have f0 := hz.frozen 0
  have f1 := hz.frozen 1
  have f2 := hz.frozen 2
  have f3 := hz.frozen 3
  clear hz
  go_quiet (fail)
  have HPN : Hid (MP md B mb ab (W.drewN nq) l0 l1 F p0 p1 F0 F1) := HP0.out.chg ((Chg.refl (fun _ => False) W).drewN nq) (fun _ _ h => h)
  have HBW : Hid (B ≤ (W.drewN nq).heap.size) := by have := HW.out; show B ≤ W.heap.size; omega
  have HCALL := hide (hashm_any md mb p0 l0 F0 (W.drewN nq) HPN.out.m0 hmd)
  go_wp2_with fail
  refine HCALL.out.mono ?_
  rintro e w1 ⟨rfl, hw1⟩
  have hcw : Chg (fun _ => False) (W.drewN nq) w1 := Chg.ofBelow hw1 _
  have HI1 : Hid (MInv md B mb ab w1 (l0, l1) F) := (HPN.out.chg hcw (fun _ _ h => h)).inv
  have HF1 : Hid (∀ i, F i → F i ∨ w.heap.size ≤ i) := fun i hi => Or.inl hi
  have HN1 : Hid (¬ F (w.heap.size + 1)) := HNF.out.1
  have HC1 : Hid (Chg F w w1) := (HCW.out.drewN nq).trans hcw (fun _ _ h => h.elim)
  have HZ1 : Hid (Blk w1 (w.heap.size + 1) 46 #[.int .i64 0, .bool false, .slice none 0 0, .bool false]) := Blk.chg (w := W.drewN nq) HB0.out.2.1 hcw (fun h => h)
  obtain ⟨FN, hFN⟩ : ∃ FN, FN = F := ⟨_, rfl⟩
  rw [← hFN] at HI1 HN1
  replace HF1 : Hid (∀ i, FN i → F i ∨ w.heap.size ≤ i) := by rw [hFN]; exact HF1.out
  clear hcw hw1
  have hz := HZ1.out
  have k0 : w1.cell? ⟨w.heap.size + 1, 0, none⟩ = some (.int .i64 0) := by rw [hz.cell]; rfl
  have k1 : w1.cell? ⟨w.heap.size + 1, 1, none⟩ = some (.bool false) := by rw [hz.cell]; rfl
  have k2 : w1.cell? ⟨w.heap.size + 1, 2, none⟩ = some (.slice none 0 0) := by rw [hz.cell]; rfl
  have k3 : w1.cell? ⟨w.heap.size + 1, 3, none⟩ = some (.bool false) := by rw [hz.cell]; rfl
  have f0 := hz.frozen 0
  have f1 := hz.frozen 1
  have f2 := hz.frozen 2
  have f3 := hz.frozen 3
  clear hz
  go_upto_region 24 with (fail)
  have HZ2 : Hid (Blk (w1.setCell ⟨w.heap.size + 1, 0, none⟩ (.int .i64 (hashL md l0))) (w.heap.size + 1) 46 #[.int .i64 (hashL md l0), .bool false, .slice none 0 0, .bool false]) := (HZ1.out.set_ 0 (.int .i64 (hashL md l0)))
  have HS2 : Hid (Chg (· = w.heap.size + 1) w1 (w1.setCell ⟨w.heap.size + 1, 0, none⟩ (.int .i64 (hashL md l0)))) := ((Chg.refl (· = w.heap.size + 1) w1).setCell (p := ⟨w.heap.size + 1, 0, none⟩) (fun _ => rfl) (.int .i64 (hashL md l0)))
  generalize (w1.setCell ⟨w.heap.size + 1, 0, none⟩ (.int .i64 (hashL md l0))) = w2 at *
  clear k0 k1 k2 k3 f0 f1 f2 f3
  have k0 : w2.cell? ⟨w.heap.size + 1, 0, none⟩ = some (.int .i64 (hashL md l0)) := by rw [HZ2.out.cell]; rfl
  have k1 : w2.cell? ⟨w.heap.size + 1, 1, none⟩ = some (.bool false) := by rw [HZ2.out.cell]; rfl
  have k2 : w2.cell? ⟨w.heap.size + 1, 2, none⟩ = some (.slice none 0 0) := by rw [HZ2.out.cell]; rfl
  have k3 : w2.cell? ⟨w.heap.size + 1, 3, none⟩ = some (.bool false) := by rw [HZ2.out.cell]; rfl
  have f0 := HZ2.out.frozen 0
  have f1 := HZ2.out.frozen 1
  have f2 := HZ2.out.frozen 2
  have f3 := HZ2.out.frozen 3
  go_wp2
  refine bodyPost_ret (v := .agg ((⟨hashL md l0, false, [], false⟩ : AnsD).cells (.slice none 0 0))) ?_ rfl ?_
  · simp [results, Try.f70, go_sem, k0, k1, k2, k3, AnsD.cells]
  · refine done_ok (machM md B mb ab) (x' := (l0, l1)) (a := ⟨hashL md l0, false, [], false⟩) (r := w.heap.size + 1) (w1 := w1) (F1 := FN) (c := 0) ?_ rfl HI1.out HF1.out HN1.out (Nat.le_succ _) HC1.out ?_ SliceIs.none_
    · show ((stepM md (l0, l1) s).1, some (stepM md (l0, l1) s).2) = _
      simp [stepM, stpM, hwhat, hwh]
    · exact HS2.out.trans (set4_chg _ _ _ _ _ _) (fun _ _ h => h)

set_option linter.unusedVariables false in
set_option linter.unusedSimpArgs false in
set_option maxHeartbeats 2000000 in
set_option maxRecDepth 100000 in
theorem maps0_8 (md : Int) (B mb ab : Nat) (l0 l1 : List (Int × Int)) (F : Nat → Prop) (s : StepD) (A : Option Addr) (c : Nat) (w : World) (hmd : okI md) (hz0 : l0.length ≤ 549755813888) (hz1 : l1.length ≤ 549755813888) (h : MInv md B mb ab w (l0, l1) F) (hB : B ≤ w.heap.size) (hwh : s.which = 0) (hwhat : s.what = 8) :
    Calls Try.prog 70 #[.agg (s.cells (.slice A s.list.length c)), .pointer (some ⟨ab, 0, none⟩)] w (Stepped (machM md B mb ab) (l0, l1) F s (fun _ e _ => ∃ u pv, e = .panicked [{ v := .iface u pv, recovered := false }]) w) := by
  obtain ⟨p0, p1, F0, F1, hp⟩ := h.parts
  have hst0 := start_facts w (s.cells (.slice A s.list.length c)) #[.int .i64 0, .bool false, .slice none 0 0, .bool false]
  have hP0 := hp.chg (Chg.ofBelow hst0.1 (fun _ => False)) (fun _ _ h => h)
  have hbx : Blk ((w.alloc (.cells (s.cells (.slice A s.list.length c)) 29)).alloc (.cells #[.int .i64 0, .bool false, .slice none 0 0, .bool false] 46)) w.heap.size 29 (s.cells (.slice A s.list.length c)) := (Blk.new _ _ _).alloc _
  have HNF : Hid (¬ F (w.heap.size + 1) ∧ ¬ F w.heap.size) := ⟨fun h => by have := hp.lt _ h; omega, fun h => by have := hp.lt _ h; omega⟩
  have hal : ab < w.heap.size := hp.arr.lt
  have ca0 : w.cell? ⟨ab, 0, none⟩ = some (.pointer (some ⟨p0, 0, none⟩)) := by rw [hp.arr.cell]; rfl
  have ca1 : w.cell? ⟨ab, 1, none⟩ = some (.pointer (some ⟨p1, 0, none⟩)) := by rw [hp.arr.cell]; rfl
  have HB0 := hide hst0
  have HP0 := hide hP0
  have HBX := hide hbx
  clear hp hst0 hP0 hbx h
  unfold StepD.cells at *
  rw [hwhat, hwh] at HB0 HP0 HBX ⊢
  go_enter Try.func70, Try.ntmps70
  go_wp2_with fail
  generalize (w.alloc (.cells #[.int .i64 8, .int .i64 0, .int .i64 s.index, .int .i64 s.bit, .int .i64 s.n, .int .i64 s.key, .int .i64 s.value, .slice A s.list.length c] 29)).alloc (.cells #[.int .i64 0, .bool false, .slice none 0 0, .bool false] 46) = W at *
  have HW : Hid (W.heap.size = w.heap.size + 2) := HB0.out.2.2
  have HCW : Hid (Chg F w W) := Chg.ofBelow HB0.out.1 F
  have b0 : W.cell? ⟨w.heap.size, 0, none⟩ = some (.int .i64 8) := by rw [HBX.out.cell]; rfl
  have b1 : W.cell? ⟨w.heap.size, 1, none⟩ = some (.int .i64 0) := by rw [HBX.out.cell]; rfl
  have b5 : W.cell? ⟨w.heap.size, 5, none⟩ = some (.int .i64 s.key) := by rw [HBX.out.cell]; rfl
  have b6 : W.cell? ⟨w.heap.size, 6, none⟩ = some (.int .i64 s.value) := by rw [HBX.out.cell]; rfl
  have ba0 : W.cell? ⟨ab, 0, none⟩ = some (.pointer (some ⟨p0, 0, none⟩)) := by rw [HP0.out.arr.cell]; rfl
  have ba1 : W.cell? ⟨ab, 1, none⟩ = some (.pointer (some ⟨p1, 0, none⟩)) := by rw [HP0.out.arr.cell]; rfl
  have hz := HB0.out.2.1
  have k0 : W.cell? ⟨w.heap.size + 1, 0, none⟩ = some (.int .i64 0) := by rw [hz.cell]; rfl
  have k1 : W.cell? ⟨w.heap.size + 1, 1, none⟩ = some (.bool false) := by rw [hz.cell]; rfl
  have k2 : W.cell? ⟨w.heap.size + 1, 2, none⟩ = some (.slice none 0 0) := by rw [hz.cell]; rfl
  have k3 : W.cell? ⟨w.heap.size + 1, 3, none⟩ = some (.bool false) := by rw [hz.cell]; rfl
  have f0 := hz.frozen 0
  have f1 := hz.frozen 1
  have f2 := hz.frozen 2
  have f3 := hz.frozen 3
  clear hz
  go_quiet (fail)
  have HPN : Hid (MP md B mb ab (W.drewN nq) l0 l1 F p0 p1 F0 F1) := HP0.out.chg ((Chg.refl (fun _ => False) W).drewN nq) (fun _ _ h => h)
  have HBW : Hid (B ≤ (W.drewN nq).heap.size) := by have := HW.out; show B ≤ W.heap.size; omega
  have hmf : ∀ (fn : Fn) (first cap : Array Value) (w : World), (Instr.makeFunc fn first cap).run Try.prog w = .ok (.func fn first cap) w := fun _ _ _ _ => rfl
  have hzq : Blk (W.drewN nq) (w.heap.size + 1) 46 #[.int .i64 0, .bool false, .slice none 0 0, .bool false] := HB0.out.2.1.drewN nq
  have hall : ∀ i, F0 i → F i := fun i hi => (HPN.out.all i).2 (by simp [hi])
  have hj0 : (keyVis (W.drewN nq).heap.size (w.heap.size + 1)).J (W.drewN nq) [] (fun i => i = w.heap.size + 1) := ⟨⟨.slice none 0 0, hzq, World.ownsRow_nil _ _ _ _, fun i => by simp [Value.ownBlock]⟩, Nat.le_refl _⟩
  have hit := iter_any (keyVis (W.drewN nq).heap.size (w.heap.size + 1)) md mb p0 l0 F0 (fun i => i = w.heap.size + 1) (W.drewN nq) HPN.out.m0 hj0 (key1_any _ _ l0 _ _ (by omega)) (fun i hi e => HNF.out.1 (e ▸ hall i hi))
  have HIT := hide hit
  clear hit hj0 hzq hall
  go_wp2_with fail
  refine HIT.out.mono ?_
  rintro e w5 ⟨rfl, hc5, hr5⟩
  have hany : l0.any (keyVis (W.drewN nq).heap.size (w.heap.size + 1)).stop = false := List.any_eq_false.2 (fun _ _ h => by cases h)
  obtain ⟨S, K5, hS, ⟨⟨v5, hz5, ho5, hk5'⟩, hle5⟩, hk5⟩ := hr5 hany
  have v2 : w5.cell? ⟨w.heap.size + 1, 2, none⟩ = some v5 := by rw [hz5.cell]; rfl
  have hlen : S.length = (S.map (·.1)).length := by simp
  have hsz5 : S.length ≤ 549755813888 := by rw [hS.length_eq]; omega
  rw [hlen] at ho5
  have hsort := sort_own ho5 (by rw [← hlen]; exact hsz5)
  have hv5 : v5.ownBlock ≠ some (w.heap.size + 1) := fun e => by
    obtain ⟨cs, hcs⟩ := own_blk ho5 e
    exact hcs.ne_ hz5 (by decide) rfl
  have HSORT := hide hsort
  have HZ5 := hide hz5
  have HO5 := hide ho5
  have HC5 := hide hc5
  have HS := hide hS
  have HV5 := hide hv5
  have HLE5 := hide hle5
  clear hsort hz5 ho5 hc5 hr5 hk5 hk5' hS hle5 hv5
  go_wp2_with fail
  refine HSORT.out.mono ?_
  rintro e w1 ⟨rfl, ho6, hg6⟩
  have hke : (S.map (·.1)).mergeSort (fun x y => decide (x ≤ y)) = keysL l0 := sort_perm (HS.out.map (·.1))
  have hkl : (S.map (·.1)).length = (keysL l0).length := by unfold keysL; simp [HS.out.length_eq]
  rw [hke, hkl] at ho6
  have hcw : Chg (fun i => (W.drewN nq).heap.size ≤ i ∨ i = w.heap.size + 1) (W.drewN nq) w1 := (HC5.out.mono (fun i _ hi => Or.inr hi)).trans (Chg.ofGrown (S := fun i => (W.drewN nq).heap.size ≤ i) hg6 (fun g e _ => (HO5.out.lt g e).1)) (fun i _ h => Or.inl h)
  have hFi : ∀ i, F i → ¬ ((W.drewN nq).heap.size ≤ i ∨ i = w.heap.size + 1) := fun i hi h => by
    have h1 := HP0.out.lt i hi
    rcases h with h | h
    · have h9 : W.heap.size ≤ i := h; omega
    · exact HNF.out.1 (h ▸ hi)
  have HI1 : Hid (MInv md B mb ab w1 (l0, l1) F) := (HPN.out.chg hcw hFi).inv
  have HC1 : Hid (Chg F w w1) := (HCW.out.drewN nq).trans hcw (fun i hi h => by
    have := HW.out
    rcases h with h | h
    · have h9 : W.heap.size ≤ i := h; omega
    · omega)
  have HZ1 : Hid (Blk w1 (w.heap.size + 1) 46 #[.int .i64 0, .bool false, v5, .bool false]) := (hg6.block _ HZ5.out.lt (fun e => HV5.out e.symm)).trans HZ5.out
  obtain ⟨RA, rc, rfl, _⟩ := own_reads ho6
  have HSL : Hid (SliceIs w1 (Free w1 F) RA (keysL l0).length rc (keysL l0)) := own_free2 ho6 (fun i hi => by have h9 := HP0.out.lt i hi; show i < W.heap.size; exact h9)
  clear ho6 hg6 hcw hFi k0 k1 k2 k3 f0 f1 f2 f3
  have hz := HZ1.out
  have k0 : w1.cell? ⟨w.heap.size + 1, 0, none⟩ = some (.int .i64 0) := by rw [hz.cell]; rfl
  have k1 : w1.cell? ⟨w.heap.size + 1, 1, none⟩ = some (.bool false) := by rw [hz.cell]; rfl
  have k2 : w1.cell? ⟨w.heap.size + 1, 2, none⟩ = some (.slice RA (keysL l0).length rc) := by rw [hz.cell]; rfl
  have k3 : w1.cell? ⟨w.heap.size + 1, 3, none⟩ = some (.bool false) := by rw [hz.cell]; rfl
  have f0 := hz.frozen 0
  have f1 := hz.frozen 1
  have f2 := hz.frozen 2
  have f3 := hz.frozen 3
  clear hz
  generalize hKL : keysL l0 = KL at *
  go_wp2
  refine bodyPost_ret (v := .agg ((⟨0, false, KL, false⟩ : AnsD).cells (.slice RA KL.length rc))) ?_ rfl ?_
  · simp [results, Try.f70, go_sem, k0, k1, k2, k3, AnsD.cells]
  · have hcf : Chg (· = w.heap.size + 1) w1 ((((w1.setCell ⟨w.heap.size + 1, 0, none⟩ (.int .i64 0)).setCell ⟨w.heap.size + 1, 1, none⟩ (.bool false)).setCell ⟨w.heap.size + 1, 2, none⟩ (.slice RA KL.length rc)).setCell ⟨w.heap.size + 1, 3, none⟩ (.bool false)) := set4_chg _ _ _ _ _ _
    refine done_ok (machM md B mb ab) (x' := (l0, l1)) (a := ⟨0, false, KL, false⟩) (r := w.heap.size + 1) (w1 := w1) (F1 := F) (c := rc) ?_ rfl HI1.out (fun i hi => Or.inl hi) HNF.out.1 (Nat.le_succ _) HC1.out hcf ?_
    · show ((stepM md (l0, l1) s).1, some (stepM md (l0, l1) s).2) = _
      simp [stepM, stpM, hwhat, hwh, hKL]
    · refine (HSL.out.chg hcf (fun i _ hk e => ?_)).more (fun i _ hk => ⟨hk.1, ?_⟩)
      · obtain ⟨_, cs, hcs⟩ := hk
        exact hcs.ne_ HZ1.out (by decide) e
      · obtain ⟨cs, hcs⟩ := hk.2
        exact ⟨cs, hcs.chg hcf (fun e => hcs.ne_ HZ1.out (by decide) e)⟩

set_option linter.unusedVariables false in
set_option linter.unusedSimpArgs false in
set_option maxHeartbeats 2000000 in
set_option maxRecDepth 100000 in
theorem maps0_d (md : Int) (B mb ab : Nat) (l0 l1 : List (Int × Int)) (F : Nat → Prop) (s : StepD) (A : Option Addr) (c : Nat) (w : World) (hmd : okI md) (hz0 : l0.length ≤ 549755813888) (hz1 : l1.length ≤ 549755813888) (h : MInv md B mb ab w (l0, l1) F) (hB : B ≤ w.heap.size) (hwh : s.which = 0) (hwhat : s.what < 0 ∨ 8 < s.what) :
    Calls Try.prog 70 #[.agg (s.cells (.slice A s.list.length c)), .pointer (some ⟨ab, 0, none⟩)] w (Stepped (machM md B mb ab) (l0, l1) F s (fun _ e _ => ∃ u pv, e = .panicked [{ v := .iface u pv, recovered := false }]) w) := by
  obtain ⟨p0, p1, F0, F1, hp⟩ := h.parts
  have hst0 := start_facts w (s.cells (.slice A s.list.length c)) #[.int .i64 0, .bool false, .slice none 0 0, .bool false]
  have hP0 := hp.chg (Chg.ofBelow hst0.1 (fun _ => False)) (fun _ _ h => h)
  have hbx : Blk ((w.alloc (.cells (s.cells (.slice A s.list.length c)) 29)).alloc (.cells #[.int .i64 0, .bool false, .slice none 0 0, .bool false] 46)) w.heap.size 29 (s.cells (.slice A s.list.length c)) := (Blk.new _ _ _).alloc _
  have HNF : Hid (¬ F (w.heap.size + 1) ∧ ¬ F w.heap.size) := ⟨fun h => by have := hp.lt _ h; omega, fun h => by have := hp.lt _ h; omega⟩
  have hal : ab < w.heap.size := hp.arr.lt
  have ca0 : w.cell? ⟨ab, 0, none⟩ = some (.pointer (some ⟨p0, 0, none⟩)) := by rw [hp.arr.cell]; rfl
  have ca1 : w.cell? ⟨ab, 1, none⟩ = some (.pointer (some ⟨p1, 0, none⟩)) := by rw [hp.arr.cell]; rfl
  have HB0 := hide hst0
  have HP0 := hide hP0
  have HBX := hide hbx
  clear hp hst0 hP0 hbx h
  unfold StepD.cells at *
  rw [hwh] at HB0 HP0 HBX ⊢
  go_enter Try.func70, Try.ntmps70
  go_wp2_with fail
  generalize (w.alloc (.cells #[.int .i64 s.what, .int .i64 0, .int .i64 s.index, .int .i64 s.bit, .int .i64 s.n, .int .i64 s.key, .int .i64 s.value, .slice A s.list.length c] 29)).alloc (.cells #[.int .i64 0, .bool false, .slice none 0 0, .bool false] 46) = W at *
  have HW : Hid (W.heap.size = w.heap.size + 2) := HB0.out.2.2
  have HCW : Hid (Chg F w W) := Chg.ofBelow HB0.out.1 F
  have b0 : W.cell? ⟨w.heap.size, 0, none⟩ = some (.int .i64 s.what) := by rw [HBX.out.cell]; rfl
  have b1 : W.cell? ⟨w.heap.size, 1, none⟩ = some (.int .i64 0) := by rw [HBX.out.cell]; rfl
  have b5 : W.cell? ⟨w.heap.size, 5, none⟩ = some (.int .i64 s.key) := by rw [HBX.out.cell]; rfl
  have b6 : W.cell? ⟨w.heap.size, 6, none⟩ = some (.int .i64 s.value) := by rw [HBX.out.cell]; rfl
  have ba0 : W.cell? ⟨ab, 0, none⟩ = some (.pointer (some ⟨p0, 0, none⟩)) := by rw [HP0.out.arr.cell]; rfl
  have ba1 : W.cell? ⟨ab, 1, none⟩ = some (.pointer (some ⟨p1, 0, none⟩)) := by rw [HP0.out.arr.cell]; rfl
  have hz := HB0.out.2.1
  have k0 : W.cell? ⟨w.heap.size + 1, 0, none⟩ = some (.int .i64 0) := by rw [hz.cell]; rfl
  have k1 : W.cell? ⟨w.heap.size + 1, 1, none⟩ = some (.bool false) := by rw [hz.cell]; rfl
  have k2 : W.cell? ⟨w.heap.size + 1, 2, none⟩ = some (.slice none 0 0) := by rw [hz.cell]; rfl
  have k3 : W.cell? ⟨w.heap.size + 1, 3, none⟩ = some (.bool false) := by rw [hz.cell]; rfl
  have f0 := hz.frozen 0
  have f1 := hz.frozen 1
  have f2 := hz.frozen 2
  have f3 := hz.frozen 3
  clear hz
  go_quiet (fail)
  have HPN : Hid (MP md B mb ab (W.drewN nq) l0 l1 F p0 p1 F0 F1) := HP0.out.chg ((Chg.refl (fun _ => False) W).drewN nq) (fun _ _ h => h)
  have HBW : Hid (B ≤ (W.drewN nq).heap.size) := by have := HW.out; show B ≤ W.heap.size; omega
  have hcw : Chg (fun _ => False) (W.drewN nq) (W.drewN nq) := Chg.refl _ _
  obtain ⟨w1, hw1⟩ : ∃ w1, w1 = W.drewN nq := ⟨_, rfl⟩
  have HI1 : Hid (MInv md B mb ab (W.drewN nq) (l0, l1) F) := (HPN.out.chg hcw (fun _ _ h => h)).inv
  have HF1 : Hid (∀ i, F i → F i ∨ w.heap.size ≤ i) := fun i hi => Or.inl hi
  have HN1 : Hid (¬ F (w.heap.size + 1)) := HNF.out.1
  have HC1 : Hid (Chg F w (W.drewN nq)) := (HCW.out.drewN nq).trans hcw (fun _ _ h => h.elim)
  have HZ1 : Hid (Blk (W.drewN nq) (w.heap.size + 1) 46 #[.int .i64 0, .bool false, .slice none 0 0, .bool false]) := Blk.chg (w := W.drewN nq) HB0.out.2.1 hcw (fun h => h)
  obtain ⟨FN, hFN⟩ : ∃ FN, FN = F := ⟨_, rfl⟩
  rw [← hFN] at HI1 HN1
  replace HF1 : Hid (∀ i, FN i → F i ∨ w.heap.size ≤ i) := by rw [hFN]; exact HF1.out
  clear hcw hw1
  have n0 : ¬ s.what = 0 := by omega
  have n1 : ¬ s.what = 1 := by omega
  have n2 : ¬ s.what = 2 := by omega
  have n3 : ¬ s.what = 3 := by omega
  have n4 : ¬ s.what = 4 := by omega
  have n5 : ¬ s.what = 5 := by omega
  have n6 : ¬ s.what = 6 := by omega
  have n7 : ¬ s.what = 7 := by omega
  have n8 : ¬ s.what = 8 := by omega
  go_wp2
  refine bodyPost_ret (v := .agg ((zeroAns : AnsD).cells (.slice none 0 0))) ?_ rfl ?_
  · simp [results, Try.f70, go_sem, k0, k1, k2, k3, AnsD.cells, zeroAns]
  · refine done_ok (machM md B mb ab) (x' := (l0, l1)) (a := zeroAns) (r := w.heap.size + 1) (w1 := (W.drewN nq)) (F1 := FN) (c := 0) ?_ rfl HI1.out HF1.out HN1.out (Nat.le_succ _) HC1.out ?_ SliceIs.none_
    · show ((stepM md (l0, l1) s).1, some (stepM md (l0, l1) s).2) = _
      simp [stepM, stpM, n0, n1, n2, n3, n4, n5, n6, n7, n8, hwh]
    · first
        | exact set4_chg _ _ _ _ _ _
        | exact set5_chg _ _ _ _ _ _ _
        | exact set6_chg _ _ _ _ _ _ _ _
        | exact Chg.refl _ _

set_option linter.unusedVariables false in
set_option linter.unusedSimpArgs false in
set_option maxHeartbeats 2000000 in
set_option maxRecDepth 100000 in
theorem maps_out (md : Int) (B mb ab : Nat) (l0 l1 : List (Int × Int)) (F : Nat → Prop) (s : StepD) (A : Option Addr) (c : Nat) (w : World) (h : MInv md B mb ab w (l0, l1) F) (hB : B ≤ w.heap.size) (hwh : s.which < 0 ∨ 1 < s.which) :
    Calls Try.prog 70 #[.agg (s.cells (.slice A s.list.length c)), .pointer (some ⟨ab, 0, none⟩)] w (Stepped (machM md B mb ab) (l0, l1) F s (fun _ e _ => ∃ u pv, e = .panicked [{ v := .iface u pv, recovered := false }]) w) := by
  have hst0 := start_facts w (s.cells (.slice A s.list.length c)) #[.int .i64 0, .bool false, .slice none 0 0, .bool false]
  have hI0 := (machM md B mb ab).keep (x := (l0, l1)) h (Chg.ofBelow hst0.1 (fun _ => False)) (fun _ _ h => h)
  have HNF : Hid (¬ F (w.heap.size + 1)) := fun h9 => by have := ((machM md B mb ab).lt (x := (l0, l1)) h _ h9).2; omega
  have HI0 := hide hI0
  have HB0 := hide hst0
  have hw0 : ¬ s.which = 0 := by omega
  have hw1 : ¬ s.which = 1 := by omega
  clear h hI0 hst0
  unfold StepD.cells at *
  go_enter Try.func70, Try.ntmps70
  rcases hwh with hwh | hwh
  · go_wp2
    refine bodyPost_ret (v := .agg ((zeroAns : AnsD).cells (.slice none 0 0))) ?_ rfl ?_
    · simp [results, Try.f70, go_sem, AnsD.cells, zeroAns]
    · refine done_ok (machM md B mb ab) (x' := (l0, l1)) (a := zeroAns) (r := w.heap.size + 1) (F1 := F) (c := 0) ?_ rfl HI0.out (fun i hi => Or.inl hi) HNF.out (Nat.le_succ _) (Chg.ofBelow HB0.out.1 F) (Chg.refl _ _) SliceIs.none_
      show ((stepM md (l0, l1) s).1, some (stepM md (l0, l1) s).2) = _
      simp [stepM, hw0, hw1]
  · have hwn : ¬ s.which < 0 := by omega
    go_wp2
    refine bodyPost_ret (v := .agg ((zeroAns : AnsD).cells (.slice none 0 0))) ?_ rfl ?_
    · simp [results, Try.f70, go_sem, AnsD.cells, zeroAns]
    · refine done_ok (machM md B mb ab) (x' := (l0, l1)) (a := zeroAns) (r := w.heap.size + 1) (F1 := F) (c := 0) ?_ rfl HI0.out (fun i hi => Or.inl hi) HNF.out (Nat.le_succ _) (Chg.ofBelow HB0.out.1 F) (Chg.refl _ _) SliceIs.none_
      show ((stepM md (l0, l1) s).1, some (stepM md (l0, l1) s).2) = _
      simp [stepM, hw0, hw1]

end Go.Proofs.Ytammpllfmbmdmaa
