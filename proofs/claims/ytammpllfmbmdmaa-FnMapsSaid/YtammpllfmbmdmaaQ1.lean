/- The closure of impl.Queue for the queue of kind 1: each step. Printed by gen_qd.py. -/
import Derived.Test.YtammpllfmbmdmaaQd
namespace Go.Proofs.Ytammpllfmbmdmaa
open Go.RowKit

set_option maxHeartbeats 1000000 in
set_option maxRecDepth 100000 in
theorem queue1_0 (B kb lv fv sv gv L : Nat) (l : List Int) (F : Nat → Prop) (s : StepD) (A : Option Addr) (c : Nat) (w : World) (_hB : B ≤ w.heap.size) (_hl : l.length ≤ 1099511627776) (h : QInv Fifo 1 B kb fv 56 L false w l F) (hwhat : s.what = 0) :
    Calls Try.prog 27 #[.agg (s.cells (.slice A s.list.length c)), .pointer (some ⟨kb, 0, none⟩), .pointer (some ⟨lv, 0, none⟩), .pointer (some ⟨fv, 0, none⟩), .pointer (some ⟨sv, 0, none⟩), .pointer (some ⟨gv, 0, none⟩)] w
      (Stepped (mach1 B kb lv fv sv gv L) l F s (fun _ e _ => ∃ u pv, e = .panicked [{ v := .iface u pv, recovered := false }]) w) := by
  have HI := hide h
  obtain ⟨h1, h2, _, _, _, h6⟩ := h
  have hc1 : w.cell? ⟨kb, 0, none⟩ = some (.int .i64 1) := by rw [h1.cell]; rfl
  have hc2 : w.cell? ⟨fv, 0, none⟩ = some (.pointer (some ⟨L, 0, none⟩)) := by rw [h2.cell]; rfl
  have hl1 := h1.lt
  have hl2 := h2.lt
  have hst0 := start_facts w (s.cells (.slice A s.list.length c)) #[.int .i64 0, .bool false, .slice none 0 0, .bool false]
  have HI0 : Hid (QInv Fifo 1 B kb fv 56 L false ((w.alloc (.cells (s.cells (.slice A s.list.length c)) 29)).alloc (.cells #[.int .i64 0, .bool false, .slice none 0 0, .bool false] 46)) l F) := (mach1 B kb lv fv sv gv L).keep (x := l) HI.out (Chg.ofBelow hst0.1 (fun _ => False)) (fun _ _ h => h)
  have HNF : Hid (¬ F (w.heap.size + 1)) := fun h => by have := (h6 _ h).2; omega
  have H6 := hide h6
  have HB0 := hide hst0
  clear h1 h2 h6 hst0
  unfold StepD.cells at *
  rw [hwhat] at HB0 HI0 ⊢
  go_enter Try.func27, Try.ntmps27
  go_wp2_with fail
  generalize (w.alloc (.cells #[.int .i64 0, .int .i64 s.which, .int .i64 s.index, .int .i64 s.bit, .int .i64 s.n, .int .i64 s.key, .int .i64 s.value, .slice A s.list.length c] 29)).alloc (.cells #[.int .i64 0, .bool false, .slice none 0 0, .bool false] 46) = W at *
  have hcall := fifo_push F L (tvals (l)) 3 (.int .i64 s.n) W HI0.out.2.2.1 (by simp; omega)
  refine hcall.mono ?_
  clear hcall
  rintro e w1 ⟨rfl, hq1, hcg⟩
  have hcg' : Chg (fun k => k = L ∨ NodeAt W F k) W w1 := hcg
  obtain ⟨F1, hF1e⟩ : ∃ F1 : Nat → Prop, F1 = fun i => (F i ∨ i = W.heap.size) ∧ i < w1.heap.size := ⟨_, rfl⟩
  have hLF : F L := (fifo_ql.ty HI0.out.2.2.1).1
  have HI1 : Hid (QInv Fifo 1 B kb fv 56 L false w1 (l ++ [s.n]) F1) := by
    refine QInv.after fifo_ql (by decide) HI0.out hcg' ?_ (fun i hi => by rw [hF1e]; exact ⟨Or.inl hi, Nat.lt_of_lt_of_le (HI0.out.2.2.2.2.2 i hi).2 hcg.size⟩) (fun i hi => by rw [hF1e] at hi; exact hi) (by have := HB0.out.2.2; omega)
    have h9 := hq1.lts
    rw [hF1e]
    simpa [tval] using h9
  have HF1 : Hid (∀ i, F1 i → F i ∨ i = W.heap.size) := fun i hi => by rw [hF1e] at hi; exact hi.1
  have HCF : Hid (Chg F W w1) := hcg'.mono (fun i _ e => e.elim (fun e => e ▸ hLF) (fun e => e.1))
  have hz := HB0.out.2.1.chg HCF.out HNF.out
  have HPN : Hid (zeroAns.panicked = false) := rfl
  clear hq1 hcg hcg' hF1e hLF
  have k0 : w1.cell? ⟨w.heap.size + 1, 0, none⟩ = some (.int .i64 0) := by rw [hz.cell]; rfl
  have k1 : w1.cell? ⟨w.heap.size + 1, 1, none⟩ = some (.bool false) := by rw [hz.cell]; rfl
  have k2 : w1.cell? ⟨w.heap.size + 1, 2, none⟩ = some (.slice none 0 0) := by rw [hz.cell]; rfl
  have k3 : w1.cell? ⟨w.heap.size + 1, 3, none⟩ = some (.bool false) := by rw [hz.cell]; rfl
  have f0 := hz.frozen 0
  have f1 := hz.frozen 1
  have f2 := hz.frozen 2
  have f3 := hz.frozen 3
  have HZ := hide hz
  clear hz
  go_wp2
  refine bodyPost_ret (v := .agg ((zeroAns : AnsD).cells (.slice none 0 0))) ?_ rfl ?_
  · simp [results, Try.f27, go_sem, k0, k1, k2, k3, AnsD.cells, zeroAns]
  · refine done_ok (mach1 B kb lv fv sv gv L) (x' := l ++ [s.n]) (r := w.heap.size + 1) (w1 := w1) (F1 := F1) (c := 0) ?_ HPN.out HI1.out (fun i hi => (HF1.out i hi).imp id (fun e => by have := HB0.out.2.2; omega)) ?_ (Nat.le_succ _) ((Chg.ofBelow HB0.out.1 F).trans HCF.out (fun _ _ h => h)) ?_ SliceIs.none_
    · show ((specQ 1 l s).1, some (specQ 1 l s).2.1) = _
      simp [specQ, hwhat]
    · exact fun h => (HF1.out _ h).elim HNF.out (fun e => by have := HB0.out.2.2; omega)
    · first
        | exact set4_chg _ _ _ _ _ _
        | exact Chg.refl _ _

set_option maxHeartbeats 1000000 in
set_option maxRecDepth 100000 in
theorem queue1_1 (B kb lv fv sv gv L : Nat) (l : List Int) (F : Nat → Prop) (s : StepD) (A : Option Addr) (c : Nat) (w : World) (_hB : B ≤ w.heap.size) (_hl : l.length ≤ 1099511627776) (h : QInv Fifo 1 B kb fv 56 L false w l F) (hwhat : s.what = 1) :
    Calls Try.prog 27 #[.agg (s.cells (.slice A s.list.length c)), .pointer (some ⟨kb, 0, none⟩), .pointer (some ⟨lv, 0, none⟩), .pointer (some ⟨fv, 0, none⟩), .pointer (some ⟨sv, 0, none⟩), .pointer (some ⟨gv, 0, none⟩)] w
      (Stepped (mach1 B kb lv fv sv gv L) l F s (fun _ e _ => ∃ u pv, e = .panicked [{ v := .iface u pv, recovered := false }]) w) := by
  have HI := hide h
  obtain ⟨h1, h2, _, _, _, h6⟩ := h
  have hc1 : w.cell? ⟨kb, 0, none⟩ = some (.int .i64 1) := by rw [h1.cell]; rfl
  have hc2 : w.cell? ⟨fv, 0, none⟩ = some (.pointer (some ⟨L, 0, none⟩)) := by rw [h2.cell]; rfl
  have hl1 := h1.lt
  have hl2 := h2.lt
  have hst0 := start_facts w (s.cells (.slice A s.list.length c)) #[.int .i64 0, .bool false, .slice none 0 0, .bool false]
  have HI0 : Hid (QInv Fifo 1 B kb fv 56 L false ((w.alloc (.cells (s.cells (.slice A s.list.length c)) 29)).alloc (.cells #[.int .i64 0, .bool false, .slice none 0 0, .bool false] 46)) l F) := (mach1 B kb lv fv sv gv L).keep (x := l) HI.out (Chg.ofBelow hst0.1 (fun _ => False)) (fun _ _ h => h)
  have HNF : Hid (¬ F (w.heap.size + 1)) := fun h => by have := (h6 _ h).2; omega
  have H6 := hide h6
  have HB0 := hide hst0
  clear h1 h2 h6 hst0
  unfold StepD.cells at *
  rw [hwhat] at HB0 HI0 ⊢
  go_enter Try.func27, Try.ntmps27
  go_wp2_with fail
  generalize (w.alloc (.cells #[.int .i64 1, .int .i64 s.which, .int .i64 s.index, .int .i64 s.bit, .int .i64 s.n, .int .i64 s.key, .int .i64 s.value, .slice A s.list.length c] 29)).alloc (.cells #[.int .i64 0, .bool false, .slice none 0 0, .bool false] 46) = W at *
  have hcall := fifo_pop F L (tvals (l)) W HI0.out.2.2.1 (by simp; omega)
  refine hcall.mono ?_
  clear hcall
  rintro e w0 ⟨rfl, hq1, hcg⟩
  have hcg' : Chg (fun k => k = L ∨ NodeAt W F k) W w0 := hcg.mono (fun i _ h => Or.inl h)
  have hLF : F L := (fifo_ql.ty HI0.out.2.2.1).1
  have HIa : Hid (QInv Fifo 1 B kb fv 56 L false w0 (l.eraseIdx (0)) F) := by
    refine QInv.after fifo_ql (by decide) HI0.out hcg' ?_ (fun i hi => hi) (fun i hi => ⟨Or.inl hi, Nat.lt_of_lt_of_le (HI0.out.2.2.2.2.2 i hi).2 hcg.size⟩) (by have := HB0.out.2.2; omega)
    have h9 := hq1
    rw [tail_fifo] at h9
    exact h9
  have HCa : Hid (Chg F W w0) := hcg'.mono (fun i _ e => e.elim (fun e => e ▸ hLF) (fun e => e.1))
  clear hq1 hcg hcg' hLF
  have hnum := number_any l (0) ((tvals (l)).headD .nilIface) (head_fifo l) w0
  rw [empty_fifo l]
  generalize (tvals (l)).headD .nilIface = hd at *
  generalize (!l.isEmpty) = he at *
  go_wp2_with fail
  refine hnum.mono ?_
  clear hnum
  rintro e w1 ⟨rfl, hbl⟩
  have F1 : Nat → Prop := F
  have hwl : w0.heap.size ≤ w1.heap.size := hbl.size
  have HI1 : Hid (QInv Fifo 1 B kb fv 56 L false w1 (l.eraseIdx (0)) F) := (mach1 B kb lv fv sv gv L).keep (x := l.eraseIdx (0)) HIa.out (Chg.ofBelow hbl (fun _ => False)) (fun _ _ h => h)
  have HCF : Hid (Chg F W w1) := HCa.out.trans (Chg.ofBelow hbl F) (fun _ _ h => h)
  have hz := HB0.out.2.1.chg HCF.out HNF.out
  have HPN : Hid ((atAns l (0)).panicked = false) := atAns_pan l _
  have HAL : Hid ((atAns l (0)).list = []) := atAns_list l _
  clear hbl
  generalize hat : atAns l (0) = an at *
  have HAT := hide hat
  clear hat
  unfold AnsD.cells
  have k0 : w1.cell? ⟨w.heap.size + 1, 0, none⟩ = some (.int .i64 0) := by rw [hz.cell]; rfl
  have k1 : w1.cell? ⟨w.heap.size + 1, 1, none⟩ = some (.bool false) := by rw [hz.cell]; rfl
  have k2 : w1.cell? ⟨w.heap.size + 1, 2, none⟩ = some (.slice none 0 0) := by rw [hz.cell]; rfl
  have k3 : w1.cell? ⟨w.heap.size + 1, 3, none⟩ = some (.bool false) := by rw [hz.cell]; rfl
  have f0 := hz.frozen 0
  have f1 := hz.frozen 1
  have f2 := hz.frozen 2
  have f3 := hz.frozen 3
  have HZ := hide hz
  clear hz
  have hpn := HPN.out
  go_wp2
  refine bodyPost_ret (v := .agg (an.cells (.slice none 0 0))) ?_ rfl ?_
  · simp [results, Try.f27, go_sem, k0, k1, k2, k3, AnsD.cells, hpn]
  · have hsl : ∀ W' : World, SliceIs W' (Free W' F) none an.list.length 0 an.list := fun W' => by rw [HAL.out]; exact SliceIs.none_
    have hln : (Value.slice none an.list.length 0) = .slice none 0 0 := by rw [HAL.out]; rfl
    have hfin := fun w2 (hc2 : Chg (· = w.heap.size + 1) w1 w2) => done_ok (mach1 B kb lv fv sv gv L) (x := l) (s := s) (F := F) (pan := fun _ e _ => ∃ u pv, e = .panicked [{ v := .iface u pv, recovered := false }]) (x' := l.eraseIdx (0)) (a := an) (r := w.heap.size + 1) (w1 := w1) (w2 := w2) (F1 := F) (c := 0) (by
      show ((specQ 1 l s).1, some (specQ 1 l s).2.1) = _
      rw [← HAT.out]
      simp [specQ, hwhat]) HPN.out HI1.out (fun i hi => Or.inl hi) HNF.out (Nat.le_succ _) ((Chg.ofBelow HB0.out.1 F).trans HCF.out (fun _ _ h => h)) hc2 (hsl w2)
    rw [hln] at hfin
    exact hfin _ (by first | (exact hpn ▸ set4_chg _ _ _ _ _ _) | exact set4_chg _ _ _ _ _ _)

set_option maxHeartbeats 1000000 in
set_option maxRecDepth 100000 in
theorem queue1_2 (B kb lv fv sv gv L : Nat) (l : List Int) (F : Nat → Prop) (s : StepD) (A : Option Addr) (c : Nat) (w : World) (_hB : B ≤ w.heap.size) (_hl : l.length ≤ 1099511627776) (h : QInv Fifo 1 B kb fv 56 L false w l F) (hwhat : s.what = 2) :
    Calls Try.prog 27 #[.agg (s.cells (.slice A s.list.length c)), .pointer (some ⟨kb, 0, none⟩), .pointer (some ⟨lv, 0, none⟩), .pointer (some ⟨fv, 0, none⟩), .pointer (some ⟨sv, 0, none⟩), .pointer (some ⟨gv, 0, none⟩)] w
      (Stepped (mach1 B kb lv fv sv gv L) l F s (fun _ e _ => ∃ u pv, e = .panicked [{ v := .iface u pv, recovered := false }]) w) := by
  have HI := hide h
  obtain ⟨h1, h2, _, _, _, h6⟩ := h
  have hc1 : w.cell? ⟨kb, 0, none⟩ = some (.int .i64 1) := by rw [h1.cell]; rfl
  have hc2 : w.cell? ⟨fv, 0, none⟩ = some (.pointer (some ⟨L, 0, none⟩)) := by rw [h2.cell]; rfl
  have hl1 := h1.lt
  have hl2 := h2.lt
  have hst0 := start_facts w (s.cells (.slice A s.list.length c)) #[.int .i64 0, .bool false, .slice none 0 0, .bool false]
  have HI0 : Hid (QInv Fifo 1 B kb fv 56 L false ((w.alloc (.cells (s.cells (.slice A s.list.length c)) 29)).alloc (.cells #[.int .i64 0, .bool false, .slice none 0 0, .bool false] 46)) l F) := (mach1 B kb lv fv sv gv L).keep (x := l) HI.out (Chg.ofBelow hst0.1 (fun _ => False)) (fun _ _ h => h)
  have HNF : Hid (¬ F (w.heap.size + 1)) := fun h => by have := (h6 _ h).2; omega
  have H6 := hide h6
  have HB0 := hide hst0
  clear h1 h2 h6 hst0
  unfold StepD.cells at *
  rw [hwhat] at HB0 HI0 ⊢
  go_enter Try.func27, Try.ntmps27
  go_wp2_with fail
  generalize (w.alloc (.cells #[.int .i64 2, .int .i64 s.which, .int .i64 s.index, .int .i64 s.bit, .int .i64 s.n, .int .i64 s.key, .int .i64 s.value, .slice A s.list.length c] 29)).alloc (.cells #[.int .i64 0, .bool false, .slice none 0 0, .bool false] 46) = W at *
  have hcall := fifo_peek F L (tvals (l)) W HI0.out.2.2.1
  refine hcall.mono ?_
  clear hcall
  rintro e w0 ⟨rfl, rfl⟩
  have HIa : Hid (QInv Fifo 1 B kb fv 56 L false w0 l F) := HI0
  have HCa : Hid (Chg F w0 w0) := Chg.refl _ _
  have hnum := number_any l (0) ((tvals (l)).headD .nilIface) (head_fifo l) w0
  rw [empty_fifo l]
  generalize (tvals (l)).headD .nilIface = hd at *
  generalize (!l.isEmpty) = he at *
  go_wp2_with fail
  refine hnum.mono ?_
  clear hnum
  rintro e w1 ⟨rfl, hbl⟩
  have F1 : Nat → Prop := F
  have hwl : w0.heap.size ≤ w1.heap.size := hbl.size
  have HI1 : Hid (QInv Fifo 1 B kb fv 56 L false w1 (l) F) := (mach1 B kb lv fv sv gv L).keep (x := l) HIa.out (Chg.ofBelow hbl (fun _ => False)) (fun _ _ h => h)
  have HCF : Hid (Chg F w0 w1) := HCa.out.trans (Chg.ofBelow hbl F) (fun _ _ h => h)
  have hz := HB0.out.2.1.chg HCF.out HNF.out
  have HPN : Hid ((atAns l (0)).panicked = false) := atAns_pan l _
  have HAL : Hid ((atAns l (0)).list = []) := atAns_list l _
  clear hbl
  generalize hat : atAns l (0) = an at *
  have HAT := hide hat
  clear hat
  unfold AnsD.cells
  have k0 : w1.cell? ⟨w.heap.size + 1, 0, none⟩ = some (.int .i64 0) := by rw [hz.cell]; rfl
  have k1 : w1.cell? ⟨w.heap.size + 1, 1, none⟩ = some (.bool false) := by rw [hz.cell]; rfl
  have k2 : w1.cell? ⟨w.heap.size + 1, 2, none⟩ = some (.slice none 0 0) := by rw [hz.cell]; rfl
  have k3 : w1.cell? ⟨w.heap.size + 1, 3, none⟩ = some (.bool false) := by rw [hz.cell]; rfl
  have f0 := hz.frozen 0
  have f1 := hz.frozen 1
  have f2 := hz.frozen 2
  have f3 := hz.frozen 3
  have HZ := hide hz
  clear hz
  have hpn := HPN.out
  go_wp2
  refine bodyPost_ret (v := .agg (an.cells (.slice none 0 0))) ?_ rfl ?_
  · simp [results, Try.f27, go_sem, k0, k1, k2, k3, AnsD.cells, hpn]
  · have hsl : ∀ W' : World, SliceIs W' (Free W' F) none an.list.length 0 an.list := fun W' => by rw [HAL.out]; exact SliceIs.none_
    have hln : (Value.slice none an.list.length 0) = .slice none 0 0 := by rw [HAL.out]; rfl
    have hfin := fun w2 (hc2 : Chg (· = w.heap.size + 1) w1 w2) => done_ok (mach1 B kb lv fv sv gv L) (x := l) (s := s) (F := F) (pan := fun _ e _ => ∃ u pv, e = .panicked [{ v := .iface u pv, recovered := false }]) (x' := l) (a := an) (r := w.heap.size + 1) (w1 := w1) (w2 := w2) (F1 := F) (c := 0) (by
      show ((specQ 1 l s).1, some (specQ 1 l s).2.1) = _
      rw [← HAT.out]
      simp [specQ, hwhat]) HPN.out HI1.out (fun i hi => Or.inl hi) HNF.out (Nat.le_succ _) ((Chg.ofBelow HB0.out.1 F).trans HCF.out (fun _ _ h => h)) hc2 (hsl w2)
    rw [hln] at hfin
    exact hfin _ (by first | (exact hpn ▸ set4_chg _ _ _ _ _ _) | exact set4_chg _ _ _ _ _ _)

set_option maxHeartbeats 1000000 in
set_option maxRecDepth 100000 in
theorem queue1_3 (B kb lv fv sv gv L : Nat) (l : List Int) (F : Nat → Prop) (s : StepD) (A : Option Addr) (c : Nat) (w : World) (_hB : B ≤ w.heap.size) (_hl : l.length ≤ 1099511627776) (h : QInv Fifo 1 B kb fv 56 L false w l F) (hwhat : s.what = 3) :
    Calls Try.prog 27 #[.agg (s.cells (.slice A s.list.length c)), .pointer (some ⟨kb, 0, none⟩), .pointer (some ⟨lv, 0, none⟩), .pointer (some ⟨fv, 0, none⟩), .pointer (some ⟨sv, 0, none⟩), .pointer (some ⟨gv, 0, none⟩)] w
      (Stepped (mach1 B kb lv fv sv gv L) l F s (fun _ e _ => ∃ u pv, e = .panicked [{ v := .iface u pv, recovered := false }]) w) := by
  have HI := hide h
  obtain ⟨h1, h2, _, _, _, h6⟩ := h
  have hc1 : w.cell? ⟨kb, 0, none⟩ = some (.int .i64 1) := by rw [h1.cell]; rfl
  have hc2 : w.cell? ⟨fv, 0, none⟩ = some (.pointer (some ⟨L, 0, none⟩)) := by rw [h2.cell]; rfl
  have hl1 := h1.lt
  have hl2 := h2.lt
  have hst0 := start_facts w (s.cells (.slice A s.list.length c)) #[.int .i64 0, .bool false, .slice none 0 0, .bool false]
  have HI0 : Hid (QInv Fifo 1 B kb fv 56 L false ((w.alloc (.cells (s.cells (.slice A s.list.length c)) 29)).alloc (.cells #[.int .i64 0, .bool false, .slice none 0 0, .bool false] 46)) l F) := (mach1 B kb lv fv sv gv L).keep (x := l) HI.out (Chg.ofBelow hst0.1 (fun _ => False)) (fun _ _ h => h)
  have HNF : Hid (¬ F (w.heap.size + 1)) := fun h => by have := (h6 _ h).2; omega
  have H6 := hide h6
  have HB0 := hide hst0
  clear h1 h2 h6 hst0
  unfold StepD.cells at *
  rw [hwhat] at HB0 HI0 ⊢
  go_enter Try.func27, Try.ntmps27
  go_wp2_with fail
  generalize (w.alloc (.cells #[.int .i64 3, .int .i64 s.which, .int .i64 s.index, .int .i64 s.bit, .int .i64 s.n, .int .i64 s.key, .int .i64 s.value, .slice A s.list.length c] 29)).alloc (.cells #[.int .i64 0, .bool false, .slice none 0 0, .bool false] 46) = W at *
  have hcall := fifo_size F L (tvals (l)) W HI0.out.2.2.1
  rw [len_fifo l] at hcall
  refine hcall.mono ?_
  clear hcall
  rintro e _ ⟨rfl, rfl⟩
  have HPN : Hid (AnsD.panicked ⟨l.length, false, [], false⟩ = false) := rfl
  have hz := HB0.out.2.1
  have k0 : W.cell? ⟨w.heap.size + 1, 0, none⟩ = some (.int .i64 0) := by rw [hz.cell]; rfl
  have k1 : W.cell? ⟨w.heap.size + 1, 1, none⟩ = some (.bool false) := by rw [hz.cell]; rfl
  have k2 : W.cell? ⟨w.heap.size + 1, 2, none⟩ = some (.slice none 0 0) := by rw [hz.cell]; rfl
  have k3 : W.cell? ⟨w.heap.size + 1, 3, none⟩ = some (.bool false) := by rw [hz.cell]; rfl
  have f0 := hz.frozen 0
  have f1 := hz.frozen 1
  have f2 := hz.frozen 2
  have f3 := hz.frozen 3
  have HZ := hide hz
  clear hz
  generalize hlen : (l.length : Int) = ln at *
  have HLN := hide hlen
  clear hlen
  go_wp2
  refine bodyPost_ret (v := .agg ((⟨ln, false, [], false⟩ : AnsD).cells (.slice none 0 0))) ?_ rfl ?_
  · simp [results, Try.f27, go_sem, k0, k1, k2, k3, AnsD.cells]
  · refine done_ok (mach1 B kb lv fv sv gv L) (x' := l) (a := ⟨ln, false, [], false⟩) (r := w.heap.size + 1) (w1 := W) (F1 := F) (c := 0) ?_ rfl HI0.out (fun i hi => Or.inl hi) HNF.out (Nat.le_succ _) (Chg.ofBelow HB0.out.1 F) ?_ SliceIs.none_
    · show ((specQ 1 l s).1, some (specQ 1 l s).2.1) = _
      rw [← HLN.out]
      simp [specQ, hwhat]
    · exact set5_chg _ _ _ _ _ _ _

set_option maxHeartbeats 1000000 in
set_option maxRecDepth 100000 in
theorem queue1_4 (B kb lv fv sv gv L : Nat) (l : List Int) (F : Nat → Prop) (s : StepD) (A : Option Addr) (c : Nat) (w : World) (_hB : B ≤ w.heap.size) (_hl : l.length ≤ 1099511627776) (h : QInv Fifo 1 B kb fv 56 L false w l F) (hwhat : s.what = 4) :
    Calls Try.prog 27 #[.agg (s.cells (.slice A s.list.length c)), .pointer (some ⟨kb, 0, none⟩), .pointer (some ⟨lv, 0, none⟩), .pointer (some ⟨fv, 0, none⟩), .pointer (some ⟨sv, 0, none⟩), .pointer (some ⟨gv, 0, none⟩)] w
      (Stepped (mach1 B kb lv fv sv gv L) l F s (fun _ e _ => ∃ u pv, e = .panicked [{ v := .iface u pv, recovered := false }]) w) := by
  have HI := hide h
  obtain ⟨h1, h2, _, _, _, h6⟩ := h
  have hc1 : w.cell? ⟨kb, 0, none⟩ = some (.int .i64 1) := by rw [h1.cell]; rfl
  have hc2 : w.cell? ⟨fv, 0, none⟩ = some (.pointer (some ⟨L, 0, none⟩)) := by rw [h2.cell]; rfl
  have hl1 := h1.lt
  have hl2 := h2.lt
  have hst0 := start_facts w (s.cells (.slice A s.list.length c)) #[.int .i64 0, .bool false, .slice none 0 0, .bool false]
  have HI0 : Hid (QInv Fifo 1 B kb fv 56 L false ((w.alloc (.cells (s.cells (.slice A s.list.length c)) 29)).alloc (.cells #[.int .i64 0, .bool false, .slice none 0 0, .bool false] 46)) l F) := (mach1 B kb lv fv sv gv L).keep (x := l) HI.out (Chg.ofBelow hst0.1 (fun _ => False)) (fun _ _ h => h)
  have HNF : Hid (¬ F (w.heap.size + 1)) := fun h => by have := (h6 _ h).2; omega
  have H6 := hide h6
  have HB0 := hide hst0
  clear h1 h2 h6 hst0
  unfold StepD.cells at *
  rw [hwhat] at HB0 HI0 ⊢
  go_enter Try.func27, Try.ntmps27
  go_wp2
  refine bodyPost_ret (v := .agg ((zeroAns : AnsD).cells (.slice none 0 0))) ?_ rfl ?_
  · simp [results, Try.f27, go_sem, AnsD.cells, zeroAns]
  · refine done_ok (mach1 B kb lv fv sv gv L) (x' := l) (a := zeroAns) (r := w.heap.size + 1) (F1 := F) (c := 0) ?_ rfl HI0.out (fun i hi => Or.inl hi) HNF.out (Nat.le_succ _) (Chg.ofBelow HB0.out.1 F) (Chg.refl _ _) SliceIs.none_
    show ((specQ 1 l s).1, some (specQ 1 l s).2.1) = _
    simp [specQ, hwhat]

set_option maxHeartbeats 1000000 in
set_option maxRecDepth 100000 in
theorem queue1_5 (B kb lv fv sv gv L : Nat) (l : List Int) (F : Nat → Prop) (s : StepD) (A : Option Addr) (c : Nat) (w : World) (_hB : B ≤ w.heap.size) (_hl : l.length ≤ 1099511627776) (h : QInv Fifo 1 B kb fv 56 L false w l F) (hwhat : s.what = 5) :
    Calls Try.prog 27 #[.agg (s.cells (.slice A s.list.length c)), .pointer (some ⟨kb, 0, none⟩), .pointer (some ⟨lv, 0, none⟩), .pointer (some ⟨fv, 0, none⟩), .pointer (some ⟨sv, 0, none⟩), .pointer (some ⟨gv, 0, none⟩)] w
      (Stepped (mach1 B kb lv fv sv gv L) l F s (fun _ e _ => ∃ u pv, e = .panicked [{ v := .iface u pv, recovered := false }]) w) := by
  have HI := hide h
  obtain ⟨h1, h2, _, _, _, h6⟩ := h
  have hc1 : w.cell? ⟨kb, 0, none⟩ = some (.int .i64 1) := by rw [h1.cell]; rfl
  have hc2 : w.cell? ⟨fv, 0, none⟩ = some (.pointer (some ⟨L, 0, none⟩)) := by rw [h2.cell]; rfl
  have hl1 := h1.lt
  have hl2 := h2.lt
  have hst0 := start_facts w (s.cells (.slice A s.list.length c)) #[.int .i64 0, .bool false, .slice none 0 0, .bool false]
  have HI0 : Hid (QInv Fifo 1 B kb fv 56 L false ((w.alloc (.cells (s.cells (.slice A s.list.length c)) 29)).alloc (.cells #[.int .i64 0, .bool false, .slice none 0 0, .bool false] 46)) l F) := (mach1 B kb lv fv sv gv L).keep (x := l) HI.out (Chg.ofBelow hst0.1 (fun _ => False)) (fun _ _ h => h)
  have HNF : Hid (¬ F (w.heap.size + 1)) := fun h => by have := (h6 _ h).2; omega
  have H6 := hide h6
  have HB0 := hide hst0
  clear h1 h2 h6 hst0
  unfold StepD.cells at *
  rw [hwhat] at HB0 HI0 ⊢
  go_enter Try.func27, Try.ntmps27
  go_wp2
  refine bodyPost_ret (v := .agg ((zeroAns : AnsD).cells (.slice none 0 0))) ?_ rfl ?_
  · simp [results, Try.f27, go_sem, AnsD.cells, zeroAns]
  · refine done_ok (mach1 B kb lv fv sv gv L) (x' := l) (a := zeroAns) (r := w.heap.size + 1) (F1 := F) (c := 0) ?_ rfl HI0.out (fun i hi => Or.inl hi) HNF.out (Nat.le_succ _) (Chg.ofBelow HB0.out.1 F) (Chg.refl _ _) SliceIs.none_
    show ((specQ 1 l s).1, some (specQ 1 l s).2.1) = _
    simp [specQ, hwhat]

set_option maxHeartbeats 1000000 in
set_option maxRecDepth 100000 in
theorem queue1_6 (B kb lv fv sv gv L : Nat) (l : List Int) (F : Nat → Prop) (s : StepD) (A : Option Addr) (c : Nat) (w : World) (_hB : B ≤ w.heap.size) (_hl : l.length ≤ 1099511627776) (h : QInv Fifo 1 B kb fv 56 L false w l F) (hwhat : s.what = 6) :
    Calls Try.prog 27 #[.agg (s.cells (.slice A s.list.length c)), .pointer (some ⟨kb, 0, none⟩), .pointer (some ⟨lv, 0, none⟩), .pointer (some ⟨fv, 0, none⟩), .pointer (some ⟨sv, 0, none⟩), .pointer (some ⟨gv, 0, none⟩)] w
      (Stepped (mach1 B kb lv fv sv gv L) l F s (fun _ e _ => ∃ u pv, e = .panicked [{ v := .iface u pv, recovered := false }]) w) := by
  have HI := hide h
  obtain ⟨h1, h2, _, _, _, h6⟩ := h
  have hc1 : w.cell? ⟨kb, 0, none⟩ = some (.int .i64 1) := by rw [h1.cell]; rfl
  have hc2 : w.cell? ⟨fv, 0, none⟩ = some (.pointer (some ⟨L, 0, none⟩)) := by rw [h2.cell]; rfl
  have hl1 := h1.lt
  have hl2 := h2.lt
  have hst0 := start_facts w (s.cells (.slice A s.list.length c)) #[.int .i64 0, .bool false, .slice none 0 0, .bool false]
  have HI0 : Hid (QInv Fifo 1 B kb fv 56 L false ((w.alloc (.cells (s.cells (.slice A s.list.length c)) 29)).alloc (.cells #[.int .i64 0, .bool false, .slice none 0 0, .bool false] 46)) l F) := (mach1 B kb lv fv sv gv L).keep (x := l) HI.out (Chg.ofBelow hst0.1 (fun _ => False)) (fun _ _ h => h)
  have HNF : Hid (¬ F (w.heap.size + 1)) := fun h => by have := (h6 _ h).2; omega
  have H6 := hide h6
  have HB0 := hide hst0
  clear h1 h2 h6 hst0
  unfold StepD.cells at *
  rw [hwhat] at HB0 HI0 ⊢
  go_enter Try.func27, Try.ntmps27
  go_wp2
  refine bodyPost_ret (v := .agg ((zeroAns : AnsD).cells (.slice none 0 0))) ?_ rfl ?_
  · simp [results, Try.f27, go_sem, AnsD.cells, zeroAns]
  · refine done_ok (mach1 B kb lv fv sv gv L) (x' := l) (a := zeroAns) (r := w.heap.size + 1) (F1 := F) (c := 0) ?_ rfl HI0.out (fun i hi => Or.inl hi) HNF.out (Nat.le_succ _) (Chg.ofBelow HB0.out.1 F) (Chg.refl _ _) SliceIs.none_
    show ((specQ 1 l s).1, some (specQ 1 l s).2.1) = _
    simp [specQ, hwhat]

end Go.Proofs.Ytammpllfmbmdmaa
