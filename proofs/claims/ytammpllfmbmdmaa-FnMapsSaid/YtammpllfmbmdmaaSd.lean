/- The closure of impl.Queue for the stack (kind 2) as a machine. -/
import Derived.Test.YtammpllfmbmdmaaStk2
namespace Go.Proofs.Ytammpllfmbmdmaa
open Go.RowKit

/-- A step over a stack; none: it panics. -/
def specK (l : List Int) (s : StepD) : List Int × Option AnsD :=
  if s.what = 0 then (l ++ [s.n], some zeroAns)
  else if s.what = 1 then (l.dropLast, l.getLast?.map fun x => ⟨x, false, [], false⟩)
  else if s.what = 2 then (l, l.getLast?.map fun x => ⟨x, false, [], false⟩)
  else if s.what = 3 then (l, some ⟨l.length, false, [], false⟩)
  else (l, some zeroAns)

/-- The state of the stack in memory. -/
def SInv (B kb sv : Nat) (w : World) (l : List Int) (F : Nat → Prop) : Prop :=
  Blk w kb 3 #[.int .i64 2] ∧ (∃ v, Stk w B sv v l ∧ ∀ g, v.ownBlock = some g → F g ∧ g ≠ kb) ∧ F kb ∧ F sv ∧ ∀ i, F i → B ≤ i ∧ i < w.heap.size

/-- The machine of a stack. -/
def mach2 (B kb lv fv sv gv : Nat) : Mach (List Int) where
  B := B
  id := 27
  caps := #[.pointer (some ⟨kb, 0, none⟩), .pointer (some ⟨lv, 0, none⟩), .pointer (some ⟨fv, 0, none⟩), .pointer (some ⟨sv, 0, none⟩), .pointer (some ⟨gv, 0, none⟩)]
  enters := Try.call27
  Inv := SInv B kb sv
  stp := specK
  good := fun l s => 0 ≤ s.what ∧ s.what ≤ 6 ∧ l.length ≤ 1099511627776
  keep := fun {w w' x F S} h hc hd => by
    obtain ⟨h1, ⟨v, ⟨h2, h3⟩, h4⟩, h5, h6, h7⟩ := h
    exact ⟨h1.chg hc (hd _ h5), ⟨v, ⟨h2.chg hc (hd _ h6), own_chg h3 hc (fun g hg => hd _ (h4 g hg).1)⟩, h4⟩, h5, h6, fun i hi => ⟨(h7 i hi).1, Nat.lt_of_lt_of_le (h7 i hi).2 hc.size⟩⟩
  lt := fun {w x F} h => h.2.2.2.2

theorem SInv.kb {B kb sv : Nat} {w : World} {l : List Int} {F : Nat → Prop} (h : SInv B kb sv w l F) : Blk w kb 3 #[.int .i64 2] := h.1
theorem SInv.lt {B kb sv : Nat} {w : World} {l : List Int} {F : Nat → Prop} (h : SInv B kb sv w l F) : ∀ i, F i → B ≤ i ∧ i < w.heap.size := h.2.2.2.2

/-- Behind a step on the stack. -/
theorem SInv.after {B kb sv : Nat} {w w1 : World} {l l' : List Int} {F F1 : Nat → Prop} {v v' : Value} (h : SInv B kb sv w l F) (hs : Stk w B sv v l) (hv : ∀ g, v.ownBlock = some g → F g ∧ g ≠ kb) (hs' : Stk w1 B sv v' l')
    (hc : Chg (fun k => k = sv ∨ v.ownBlock = some k) w w1) (hv' : v'.ownBlock = v.ownBlock ∨ v'.ownBlock = some (w.heap.size + 1)) (hF1 : F1 = fun i => (F i ∨ v'.ownBlock = some i)) :
    SInv B kb sv w1 l' F1 ∧ (∀ i, F1 i → F i ∨ i = w.heap.size + 1) ∧ Chg F w w1 := by
  obtain ⟨h1, _, h5, h6, h7⟩ := h
  subst hF1
  have hkl := h1.lt
  have hn : ∀ i, v'.ownBlock = some i → F i ∨ i = w.heap.size + 1 := by
    intro i hi
    rcases hv' with e | e
    · rw [e] at hi; exact Or.inl (hv i hi).1
    · rw [e] at hi; injection hi with hi; exact Or.inr hi.symm
  refine ⟨⟨h1.chg hc ?_, ⟨v', hs', fun g hg => ⟨Or.inr hg, ?_⟩⟩, Or.inl h5, Or.inl h6, fun i hi => ?_⟩, fun i hi => hi.elim Or.inl (hn i), hc.mono (fun i _ e => e.elim (fun e => e ▸ h6) (fun e => (hv i e).1))⟩
  · rintro (e | e)
    · exact hs.1.ne_ h1 (by decide) e.symm
    · exact (hv _ e).2 rfl
  · rcases hv' with e | e
    · exact (hv g (e ▸ hg)).2
    · rw [e] at hg; injection hg with hg; omega
  · rcases hi with hi | hi
    · exact ⟨(h7 i hi).1, Nat.lt_of_lt_of_le (h7 i hi).2 hc.size⟩
    · exact hs'.2.lt i hi

set_option maxHeartbeats 1000000 in
set_option maxRecDepth 100000 in
theorem queue2_0 (B kb lv fv sv gv : Nat) (l : List Int) (F : Nat → Prop) (s : StepD) (A : Option Addr) (c : Nat) (w : World) (_hB : B ≤ w.heap.size) (_hl : l.length ≤ 1099511627776) (h : SInv B kb sv w (l) F) (hwhat : s.what = 0) :
    Calls Try.prog 27 #[.agg (s.cells (.slice A s.list.length c)), .pointer (some ⟨kb, 0, none⟩), .pointer (some ⟨lv, 0, none⟩), .pointer (some ⟨fv, 0, none⟩), .pointer (some ⟨sv, 0, none⟩), .pointer (some ⟨gv, 0, none⟩)] w
      (Stepped (mach2 B kb lv fv sv gv) (l) F s (fun _ e _ => ∃ u pv, e = .panicked [{ v := .iface u pv, recovered := false }]) w) := by
  have HI := hide h
  have hk := h.kb
  have hc1 : w.cell? ⟨kb, 0, none⟩ = some (.int .i64 2) := by rw [hk.cell]; rfl
  have hl1 := hk.lt
  have hst0 := start_facts w (s.cells (.slice A s.list.length c)) #[.int .i64 0, .bool false, .slice none 0 0, .bool false]
  have HI0 : Hid (SInv B kb sv ((w.alloc (.cells (s.cells (.slice A s.list.length c)) 29)).alloc (.cells #[.int .i64 0, .bool false, .slice none 0 0, .bool false] 46)) (l) F) := (mach2 B kb lv fv sv gv).keep (x := (l)) HI.out (Chg.ofBelow hst0.1 (fun _ => False)) (fun _ _ h => h)
  have HNF : Hid (¬ F (w.heap.size + 1)) := fun h => by have := (HI.out.lt _ h).2; omega
  have HB0 := hide hst0
  clear h hk hst0
  unfold StepD.cells at *
  rw [hwhat] at HB0 HI0 ⊢
  go_enter Try.func27, Try.ntmps27
  go_wp2_with fail
  generalize (w.alloc (.cells #[.int .i64 0, .int .i64 s.which, .int .i64 s.index, .int .i64 s.bit, .int .i64 s.n, .int .i64 s.key, .int .i64 s.value, .slice A s.list.length c] 29)).alloc (.cells #[.int .i64 0, .bool false, .slice none 0 0, .bool false] 46) = W at *
  obtain ⟨_, ⟨v, hstk, hvF⟩, _⟩ := HI0.out
  have HSTK := hide hstk
  have HVF := hide hvF
  clear hstk hvF
  refine (stk_push B sv v l s.n W HSTK.out (by omega) (by have := HB0.out.2.2; omega)).mono ?_
  rintro e w1 ⟨rfl, v', hs', hob, hcg⟩
  obtain ⟨F1, hF1e⟩ : ∃ F1 : Nat → Prop, F1 = fun i => (F i ∨ v'.ownBlock = some i) := ⟨_, rfl⟩
  obtain ⟨hi1, hf1, hcf⟩ := HI0.out.after HSTK.out HVF.out hs' hcg hob hF1e
  have HI1 := hide hi1
  have HF1 := hide hf1
  have HCF := hide hcf
  clear hs' hcg hi1 hf1 hcf hF1e
  have hz := HB0.out.2.1.chg HCF.out HNF.out
  have k0 : w1.cell? ⟨w.heap.size + 1, 0, none⟩ = some (.int .i64 0) := by rw [hz.cell]; rfl
  have k1 : w1.cell? ⟨w.heap.size + 1, 1, none⟩ = some (.bool false) := by rw [hz.cell]; rfl
  have k2 : w1.cell? ⟨w.heap.size + 1, 2, none⟩ = some (.slice none 0 0) := by rw [hz.cell]; rfl
  have k3 : w1.cell? ⟨w.heap.size + 1, 3, none⟩ = some (.bool false) := by rw [hz.cell]; rfl
  have f0 := hz.frozen 0
  have f1 := hz.frozen 1
  have f2 := hz.frozen 2
  have f3 := hz.frozen 3
  have HZ := hide hz
  clear hz
  go_wp2
  refine bodyPost_ret (v := .agg ((zeroAns : AnsD).cells (.slice none 0 0))) ?_ rfl ?_
  · simp [results, Try.f27, go_sem, k0, k1, k2, k3, AnsD.cells, zeroAns]
  · refine done_ok (mach2 B kb lv fv sv gv) (x' := l ++ [s.n]) (a := zeroAns) (r := w.heap.size + 1) (w1 := w1) (F1 := F1) (c := 0) ?_ rfl HI1.out (fun i hi => (HF1.out i hi).imp id (fun e => by have := HB0.out.2.2; omega)) ?_ (Nat.le_succ _) ((Chg.ofBelow HB0.out.1 F).trans HCF.out (fun _ _ h => h)) ?_ SliceIs.none_
    · show specK (l) s = _
      simp [specK, hwhat]
    · exact fun h => (HF1.out _ h).elim HNF.out (fun e => by have := HB0.out.2.2; omega)
    · first | exact Chg.refl _ _ | exact set4_chg _ _ _ _ _ _

set_option maxHeartbeats 1000000 in
set_option maxRecDepth 100000 in
theorem queue2_1p (B kb lv fv sv gv : Nat) (l : List Int) (x : Int) (F : Nat → Prop) (s : StepD) (A : Option Addr) (c : Nat) (w : World) (_hB : B ≤ w.heap.size) (_hl : l.length ≤ 1099511627776) (h : SInv B kb sv w (l ++ [x]) F) (hwhat : s.what = 1) :
    Calls Try.prog 27 #[.agg (s.cells (.slice A s.list.length c)), .pointer (some ⟨kb, 0, none⟩), .pointer (some ⟨lv, 0, none⟩), .pointer (some ⟨fv, 0, none⟩), .pointer (some ⟨sv, 0, none⟩), .pointer (some ⟨gv, 0, none⟩)] w
      (Stepped (mach2 B kb lv fv sv gv) (l ++ [x]) F s (fun _ e _ => ∃ u pv, e = .panicked [{ v := .iface u pv, recovered := false }]) w) := by
  have HI := hide h
  have hk := h.kb
  have hc1 : w.cell? ⟨kb, 0, none⟩ = some (.int .i64 2) := by rw [hk.cell]; rfl
  have hl1 := hk.lt
  have hst0 := start_facts w (s.cells (.slice A s.list.length c)) #[.int .i64 0, .bool false, .slice none 0 0, .bool false]
  have HI0 : Hid (SInv B kb sv ((w.alloc (.cells (s.cells (.slice A s.list.length c)) 29)).alloc (.cells #[.int .i64 0, .bool false, .slice none 0 0, .bool false] 46)) (l ++ [x]) F) := (mach2 B kb lv fv sv gv).keep (x := (l ++ [x])) HI.out (Chg.ofBelow hst0.1 (fun _ => False)) (fun _ _ h => h)
  have HNF : Hid (¬ F (w.heap.size + 1)) := fun h => by have := (HI.out.lt _ h).2; omega
  have HB0 := hide hst0
  clear h hk hst0
  unfold StepD.cells at *
  rw [hwhat] at HB0 HI0 ⊢
  go_enter Try.func27, Try.ntmps27
  go_wp2_with fail
  generalize (w.alloc (.cells #[.int .i64 1, .int .i64 s.which, .int .i64 s.index, .int .i64 s.bit, .int .i64 s.n, .int .i64 s.key, .int .i64 s.value, .slice A s.list.length c] 29)).alloc (.cells #[.int .i64 0, .bool false, .slice none 0 0, .bool false] 46) = W at *
  obtain ⟨_, ⟨v, hstk, hvF⟩, _⟩ := HI0.out
  have HSTK := hide hstk
  have HVF := hide hvF
  clear hstk hvF
  refine (stk_pop B sv v l x W HSTK.out (by omega)).mono ?_
  rintro e w1 ⟨rfl, v', hs', hob, hcg⟩
  obtain ⟨F1, hF1e⟩ : ∃ F1 : Nat → Prop, F1 = fun i => (F i ∨ v'.ownBlock = some i) := ⟨_, rfl⟩
  obtain ⟨hi1, hf1, hcf⟩ := HI0.out.after HSTK.out HVF.out hs' hcg (Or.inl hob) hF1e
  have HI1 := hide hi1
  have HF1 := hide hf1
  have HCF := hide hcf
  clear hs' hcg hi1 hf1 hcf hF1e
  have hz := HB0.out.2.1.chg HCF.out HNF.out
  have k0 : w1.cell? ⟨w.heap.size + 1, 0, none⟩ = some (.int .i64 0) := by rw [hz.cell]; rfl
  have k1 : w1.cell? ⟨w.heap.size + 1, 1, none⟩ = some (.bool false) := by rw [hz.cell]; rfl
  have k2 : w1.cell? ⟨w.heap.size + 1, 2, none⟩ = some (.slice none 0 0) := by rw [hz.cell]; rfl
  have k3 : w1.cell? ⟨w.heap.size + 1, 3, none⟩ = some (.bool false) := by rw [hz.cell]; rfl
  have f0 := hz.frozen 0
  have f1 := hz.frozen 1
  have f2 := hz.frozen 2
  have f3 := hz.frozen 3
  have HZ := hide hz
  clear hz
  go_wp2
  refine bodyPost_ret (v := .agg ((⟨x, false, [], false⟩ : AnsD).cells (.slice none 0 0))) ?_ rfl ?_
  · simp [results, Try.f27, go_sem, k0, k1, k2, k3, AnsD.cells]
  · refine done_ok (mach2 B kb lv fv sv gv) (x' := l) (a := ⟨x, false, [], false⟩) (r := w.heap.size + 1) (w1 := w1) (F1 := F1) (c := 0) ?_ rfl HI1.out (fun i hi => (HF1.out i hi).imp id (fun e => by have := HB0.out.2.2; omega)) ?_ (Nat.le_succ _) ((Chg.ofBelow HB0.out.1 F).trans HCF.out (fun _ _ h => h)) ?_ SliceIs.none_
    · show specK (l ++ [x]) s = _
      simp [specK, hwhat]
    · exact fun h => (HF1.out _ h).elim HNF.out (fun e => by have := HB0.out.2.2; omega)
    · exact set5_chg _ _ _ _ _ _ _

set_option maxHeartbeats 1000000 in
set_option maxRecDepth 100000 in
theorem queue2_1n (B kb lv fv sv gv : Nat) (F : Nat → Prop) (s : StepD) (A : Option Addr) (c : Nat) (w : World) (_hB : B ≤ w.heap.size) (h : SInv B kb sv w ([]) F) (hwhat : s.what = 1) :
    Calls Try.prog 27 #[.agg (s.cells (.slice A s.list.length c)), .pointer (some ⟨kb, 0, none⟩), .pointer (some ⟨lv, 0, none⟩), .pointer (some ⟨fv, 0, none⟩), .pointer (some ⟨sv, 0, none⟩), .pointer (some ⟨gv, 0, none⟩)] w
      (Stepped (mach2 B kb lv fv sv gv) ([]) F s (fun _ e _ => ∃ u pv, e = .panicked [{ v := .iface u pv, recovered := false }]) w) := by
  have HI := hide h
  have hk := h.kb
  have hc1 : w.cell? ⟨kb, 0, none⟩ = some (.int .i64 2) := by rw [hk.cell]; rfl
  have hl1 := hk.lt
  have hst0 := start_facts w (s.cells (.slice A s.list.length c)) #[.int .i64 0, .bool false, .slice none 0 0, .bool false]
  have HI0 : Hid (SInv B kb sv ((w.alloc (.cells (s.cells (.slice A s.list.length c)) 29)).alloc (.cells #[.int .i64 0, .bool false, .slice none 0 0, .bool false] 46)) ([]) F) := (mach2 B kb lv fv sv gv).keep (x := ([])) HI.out (Chg.ofBelow hst0.1 (fun _ => False)) (fun _ _ h => h)
  have HNF : Hid (¬ F (w.heap.size + 1)) := fun h => by have := (HI.out.lt _ h).2; omega
  have HB0 := hide hst0
  clear h hk hst0
  unfold StepD.cells at *
  rw [hwhat] at HB0 HI0 ⊢
  go_enter Try.func27, Try.ntmps27
  go_wp2_with fail
  generalize (w.alloc (.cells #[.int .i64 1, .int .i64 s.which, .int .i64 s.index, .int .i64 s.bit, .int .i64 s.n, .int .i64 s.key, .int .i64 s.value, .slice A s.list.length c] 29)).alloc (.cells #[.int .i64 0, .bool false, .slice none 0 0, .bool false] 46) = W at *
  obtain ⟨_, ⟨v, hstk, hvF⟩, _⟩ := HI0.out
  have HSTK := hide hstk
  have HVF := hide hvF
  clear hstk hvF
  refine (stk_pop_none B sv v W HSTK.out).mono ?_
  rintro e w1 ⟨⟨u, pv, rfl⟩, hcs⟩
  go_wp2
  refine ⟨rfl, Or.inr ⟨?_, ((Chg.ofBelow HB0.out.1 F).trans (hcs.mono (fun _ _ h => h.elim)) (fun _ _ h => h)), _, _, rfl⟩⟩
  show (specK ([]) s).2 = _
  simp [specK, hwhat]

set_option maxHeartbeats 1000000 in
set_option maxRecDepth 100000 in
theorem queue2_2p (B kb lv fv sv gv : Nat) (l : List Int) (x : Int) (F : Nat → Prop) (s : StepD) (A : Option Addr) (c : Nat) (w : World) (_hB : B ≤ w.heap.size) (_hl : l.length ≤ 1099511627776) (h : SInv B kb sv w (l ++ [x]) F) (hwhat : s.what = 2) :
    Calls Try.prog 27 #[.agg (s.cells (.slice A s.list.length c)), .pointer (some ⟨kb, 0, none⟩), .pointer (some ⟨lv, 0, none⟩), .pointer (some ⟨fv, 0, none⟩), .pointer (some ⟨sv, 0, none⟩), .pointer (some ⟨gv, 0, none⟩)] w
      (Stepped (mach2 B kb lv fv sv gv) (l ++ [x]) F s (fun _ e _ => ∃ u pv, e = .panicked [{ v := .iface u pv, recovered := false }]) w) := by
  have HI := hide h
  have hk := h.kb
  have hc1 : w.cell? ⟨kb, 0, none⟩ = some (.int .i64 2) := by rw [hk.cell]; rfl
  have hl1 := hk.lt
  have hst0 := start_facts w (s.cells (.slice A s.list.length c)) #[.int .i64 0, .bool false, .slice none 0 0, .bool false]
  have HI0 : Hid (SInv B kb sv ((w.alloc (.cells (s.cells (.slice A s.list.length c)) 29)).alloc (.cells #[.int .i64 0, .bool false, .slice none 0 0, .bool false] 46)) (l ++ [x]) F) := (mach2 B kb lv fv sv gv).keep (x := (l ++ [x])) HI.out (Chg.ofBelow hst0.1 (fun _ => False)) (fun _ _ h => h)
  have HNF : Hid (¬ F (w.heap.size + 1)) := fun h => by have := (HI.out.lt _ h).2; omega
  have HB0 := hide hst0
  clear h hk hst0
  unfold StepD.cells at *
  rw [hwhat] at HB0 HI0 ⊢
  go_enter Try.func27, Try.ntmps27
  go_wp2_with fail
  generalize (w.alloc (.cells #[.int .i64 2, .int .i64 s.which, .int .i64 s.index, .int .i64 s.bit, .int .i64 s.n, .int .i64 s.key, .int .i64 s.value, .slice A s.list.length c] 29)).alloc (.cells #[.int .i64 0, .bool false, .slice none 0 0, .bool false] 46) = W at *
  obtain ⟨_, ⟨v, hstk, hvF⟩, _⟩ := HI0.out
  have HSTK := hide hstk
  have HVF := hide hvF
  clear hstk hvF
  refine (stk_peek B sv v l x W HSTK.out (by omega)).mono ?_
  rintro e w1 ⟨rfl, q, hw1⟩
  have HCS : Hid (Chg (fun _ => False) W w1) := by rw [hw1]; exact (Chg.refl _ _).drewN q
  clear hw1
  obtain ⟨F1, hF1e⟩ : ∃ F1 : Nat → Prop, F1 = F := ⟨_, rfl⟩
  have HI1 : Hid (SInv B kb sv w1 (l ++ [x]) F1) := by rw [hF1e]; exact (mach2 B kb lv fv sv gv).keep (x := (l ++ [x])) HI0.out HCS.out (fun _ _ h => h)
  have HF1 : Hid (∀ i, F1 i → F i ∨ i = W.heap.size + 1) := fun i hi => by rw [hF1e] at hi; exact Or.inl hi
  have HCF : Hid (Chg F W w1) := HCS.out.mono (fun _ _ h => h.elim)
  clear hF1e
  have hz := HB0.out.2.1.chg HCF.out HNF.out
  have k0 : w1.cell? ⟨w.heap.size + 1, 0, none⟩ = some (.int .i64 0) := by rw [hz.cell]; rfl
  have k1 : w1.cell? ⟨w.heap.size + 1, 1, none⟩ = some (.bool false) := by rw [hz.cell]; rfl
  have k2 : w1.cell? ⟨w.heap.size + 1, 2, none⟩ = some (.slice none 0 0) := by rw [hz.cell]; rfl
  have k3 : w1.cell? ⟨w.heap.size + 1, 3, none⟩ = some (.bool false) := by rw [hz.cell]; rfl
  have f0 := hz.frozen 0
  have f1 := hz.frozen 1
  have f2 := hz.frozen 2
  have f3 := hz.frozen 3
  have HZ := hide hz
  clear hz
  go_wp2
  refine bodyPost_ret (v := .agg ((⟨x, false, [], false⟩ : AnsD).cells (.slice none 0 0))) ?_ rfl ?_
  · simp [results, Try.f27, go_sem, k0, k1, k2, k3, AnsD.cells]
  · refine done_ok (mach2 B kb lv fv sv gv) (x' := l ++ [x]) (a := ⟨x, false, [], false⟩) (r := w.heap.size + 1) (w1 := w1) (F1 := F1) (c := 0) ?_ rfl HI1.out (fun i hi => (HF1.out i hi).imp id (fun e => by have := HB0.out.2.2; omega)) ?_ (Nat.le_succ _) ((Chg.ofBelow HB0.out.1 F).trans HCF.out (fun _ _ h => h)) ?_ SliceIs.none_
    · show specK (l ++ [x]) s = _
      simp [specK, hwhat]
    · exact fun h => (HF1.out _ h).elim HNF.out (fun e => by have := HB0.out.2.2; omega)
    · exact set5_chg _ _ _ _ _ _ _

set_option maxHeartbeats 1000000 in
set_option maxRecDepth 100000 in
theorem queue2_2n (B kb lv fv sv gv : Nat) (F : Nat → Prop) (s : StepD) (A : Option Addr) (c : Nat) (w : World) (_hB : B ≤ w.heap.size) (h : SInv B kb sv w ([]) F) (hwhat : s.what = 2) :
    Calls Try.prog 27 #[.agg (s.cells (.slice A s.list.length c)), .pointer (some ⟨kb, 0, none⟩), .pointer (some ⟨lv, 0, none⟩), .pointer (some ⟨fv, 0, none⟩), .pointer (some ⟨sv, 0, none⟩), .pointer (some ⟨gv, 0, none⟩)] w
      (Stepped (mach2 B kb lv fv sv gv) ([]) F s (fun _ e _ => ∃ u pv, e = .panicked [{ v := .iface u pv, recovered := false }]) w) := by
  have HI := hide h
  have hk := h.kb
  have hc1 : w.cell? ⟨kb, 0, none⟩ = some (.int .i64 2) := by rw [hk.cell]; rfl
  have hl1 := hk.lt
  have hst0 := start_facts w (s.cells (.slice A s.list.length c)) #[.int .i64 0, .bool false, .slice none 0 0, .bool false]
  have HI0 : Hid (SInv B kb sv ((w.alloc (.cells (s.cells (.slice A s.list.length c)) 29)).alloc (.cells #[.int .i64 0, .bool false, .slice none 0 0, .bool false] 46)) ([]) F) := (mach2 B kb lv fv sv gv).keep (x := ([])) HI.out (Chg.ofBelow hst0.1 (fun _ => False)) (fun _ _ h => h)
  have HNF : Hid (¬ F (w.heap.size + 1)) := fun h => by have := (HI.out.lt _ h).2; omega
  have HB0 := hide hst0
  clear h hk hst0
  unfold StepD.cells at *
  rw [hwhat] at HB0 HI0 ⊢
  go_enter Try.func27, Try.ntmps27
  go_wp2_with fail
  generalize (w.alloc (.cells #[.int .i64 2, .int .i64 s.which, .int .i64 s.index, .int .i64 s.bit, .int .i64 s.n, .int .i64 s.key, .int .i64 s.value, .slice A s.list.length c] 29)).alloc (.cells #[.int .i64 0, .bool false, .slice none 0 0, .bool false] 46) = W at *
  obtain ⟨_, ⟨v, hstk, hvF⟩, _⟩ := HI0.out
  have HSTK := hide hstk
  have HVF := hide hvF
  clear hstk hvF
  refine (stk_peek_none B sv v W HSTK.out).mono ?_
  rintro e w1 ⟨⟨u, pv, rfl⟩, hcs⟩
  go_wp2
  refine ⟨rfl, Or.inr ⟨?_, ((Chg.ofBelow HB0.out.1 F).trans (hcs.mono (fun _ _ h => h.elim)) (fun _ _ h => h)), _, _, rfl⟩⟩
  show (specK ([]) s).2 = _
  simp [specK, hwhat]

set_option maxHeartbeats 1000000 in
set_option maxRecDepth 100000 in
theorem queue2_3 (B kb lv fv sv gv : Nat) (l : List Int) (F : Nat → Prop) (s : StepD) (A : Option Addr) (c : Nat) (w : World) (_hB : B ≤ w.heap.size) (_hl : l.length ≤ 1099511627776) (h : SInv B kb sv w (l) F) (hwhat : s.what = 3) :
    Calls Try.prog 27 #[.agg (s.cells (.slice A s.list.length c)), .pointer (some ⟨kb, 0, none⟩), .pointer (some ⟨lv, 0, none⟩), .pointer (some ⟨fv, 0, none⟩), .pointer (some ⟨sv, 0, none⟩), .pointer (some ⟨gv, 0, none⟩)] w
      (Stepped (mach2 B kb lv fv sv gv) (l) F s (fun _ e _ => ∃ u pv, e = .panicked [{ v := .iface u pv, recovered := false }]) w) := by
  have HI := hide h
  have hk := h.kb
  have hc1 : w.cell? ⟨kb, 0, none⟩ = some (.int .i64 2) := by rw [hk.cell]; rfl
  have hl1 := hk.lt
  have hst0 := start_facts w (s.cells (.slice A s.list.length c)) #[.int .i64 0, .bool false, .slice none 0 0, .bool false]
  have HI0 : Hid (SInv B kb sv ((w.alloc (.cells (s.cells (.slice A s.list.length c)) 29)).alloc (.cells #[.int .i64 0, .bool false, .slice none 0 0, .bool false] 46)) (l) F) := (mach2 B kb lv fv sv gv).keep (x := (l)) HI.out (Chg.ofBelow hst0.1 (fun _ => False)) (fun _ _ h => h)
  have HNF : Hid (¬ F (w.heap.size + 1)) := fun h => by have := (HI.out.lt _ h).2; omega
  have HB0 := hide hst0
  clear h hk hst0
  unfold StepD.cells at *
  rw [hwhat] at HB0 HI0 ⊢
  go_enter Try.func27, Try.ntmps27
  go_wp2_with fail
  generalize (w.alloc (.cells #[.int .i64 3, .int .i64 s.which, .int .i64 s.index, .int .i64 s.bit, .int .i64 s.n, .int .i64 s.key, .int .i64 s.value, .slice A s.list.length c] 29)).alloc (.cells #[.int .i64 0, .bool false, .slice none 0 0, .bool false] 46) = W at *
  obtain ⟨_, ⟨v, hstk, hvF⟩, _⟩ := HI0.out
  have HSTK := hide hstk
  have HVF := hide hvF
  clear hstk hvF
  refine (stk_len B sv v l W HSTK.out).mono ?_
  rintro e w1 ⟨rfl, hw1⟩
  have HCS : Hid (Chg (fun _ => False) W w1) := by rw [hw1]; exact (Chg.refl _ _)
  clear hw1
  obtain ⟨F1, hF1e⟩ : ∃ F1 : Nat → Prop, F1 = F := ⟨_, rfl⟩
  have HI1 : Hid (SInv B kb sv w1 (l) F1) := by rw [hF1e]; exact (mach2 B kb lv fv sv gv).keep (x := (l)) HI0.out HCS.out (fun _ _ h => h)
  have HF1 : Hid (∀ i, F1 i → F i ∨ i = W.heap.size + 1) := fun i hi => by rw [hF1e] at hi; exact Or.inl hi
  have HCF : Hid (Chg F W w1) := HCS.out.mono (fun _ _ h => h.elim)
  clear hF1e
  generalize hlen : (l.length : Int) = ln at *
  have HLN := hide hlen
  clear hlen
  have hz := HB0.out.2.1.chg HCF.out HNF.out
  have k0 : w1.cell? ⟨w.heap.size + 1, 0, none⟩ = some (.int .i64 0) := by rw [hz.cell]; rfl
  have k1 : w1.cell? ⟨w.heap.size + 1, 1, none⟩ = some (.bool false) := by rw [hz.cell]; rfl
  have k2 : w1.cell? ⟨w.heap.size + 1, 2, none⟩ = some (.slice none 0 0) := by rw [hz.cell]; rfl
  have k3 : w1.cell? ⟨w.heap.size + 1, 3, none⟩ = some (.bool false) := by rw [hz.cell]; rfl
  have f0 := hz.frozen 0
  have f1 := hz.frozen 1
  have f2 := hz.frozen 2
  have f3 := hz.frozen 3
  have HZ := hide hz
  clear hz
  go_wp2
  refine bodyPost_ret (v := .agg ((⟨ln, false, [], false⟩ : AnsD).cells (.slice none 0 0))) ?_ rfl ?_
  · simp [results, Try.f27, go_sem, k0, k1, k2, k3, AnsD.cells]
  · refine done_ok (mach2 B kb lv fv sv gv) (x' := l) (a := ⟨ln, false, [], false⟩) (r := w.heap.size + 1) (w1 := w1) (F1 := F1) (c := 0) ?_ rfl HI1.out (fun i hi => (HF1.out i hi).imp id (fun e => by have := HB0.out.2.2; omega)) ?_ (Nat.le_succ _) ((Chg.ofBelow HB0.out.1 F).trans HCF.out (fun _ _ h => h)) ?_ SliceIs.none_
    · show specK (l) s = _
      rw [← HLN.out]
      simp [specK, hwhat]
    · exact fun h => (HF1.out _ h).elim HNF.out (fun e => by have := HB0.out.2.2; omega)
    · exact set5_chg _ _ _ _ _ _ _

set_option maxHeartbeats 1000000 in
set_option maxRecDepth 100000 in
theorem queue2_4 (B kb lv fv sv gv : Nat) (l : List Int) (F : Nat → Prop) (s : StepD) (A : Option Addr) (c : Nat) (w : World) (_hB : B ≤ w.heap.size) (_hl : l.length ≤ 1099511627776) (h : SInv B kb sv w (l) F) (hwhat : s.what = 4) :
    Calls Try.prog 27 #[.agg (s.cells (.slice A s.list.length c)), .pointer (some ⟨kb, 0, none⟩), .pointer (some ⟨lv, 0, none⟩), .pointer (some ⟨fv, 0, none⟩), .pointer (some ⟨sv, 0, none⟩), .pointer (some ⟨gv, 0, none⟩)] w
      (Stepped (mach2 B kb lv fv sv gv) (l) F s (fun _ e _ => ∃ u pv, e = .panicked [{ v := .iface u pv, recovered := false }]) w) := by
  have HI := hide h
  have hk := h.kb
  have hc1 : w.cell? ⟨kb, 0, none⟩ = some (.int .i64 2) := by rw [hk.cell]; rfl
  have hl1 := hk.lt
  have hst0 := start_facts w (s.cells (.slice A s.list.length c)) #[.int .i64 0, .bool false, .slice none 0 0, .bool false]
  have HI0 : Hid (SInv B kb sv ((w.alloc (.cells (s.cells (.slice A s.list.length c)) 29)).alloc (.cells #[.int .i64 0, .bool false, .slice none 0 0, .bool false] 46)) (l) F) := (mach2 B kb lv fv sv gv).keep (x := (l)) HI.out (Chg.ofBelow hst0.1 (fun _ => False)) (fun _ _ h => h)
  have HNF : Hid (¬ F (w.heap.size + 1)) := fun h => by have := (HI.out.lt _ h).2; omega
  have HB0 := hide hst0
  clear h hk hst0
  unfold StepD.cells at *
  rw [hwhat] at HB0 HI0 ⊢
  go_enter Try.func27, Try.ntmps27
  go_wp2
  refine bodyPost_ret (v := .agg ((zeroAns : AnsD).cells (.slice none 0 0))) ?_ rfl ?_
  · simp [results, Try.f27, go_sem, AnsD.cells, zeroAns]
  · refine done_ok (mach2 B kb lv fv sv gv) (x' := l) (a := zeroAns) (r := w.heap.size + 1) (F1 := F) (c := 0) ?_ rfl HI0.out (fun i hi => Or.inl hi) HNF.out (Nat.le_succ _) (Chg.ofBelow HB0.out.1 F) (Chg.refl _ _) SliceIs.none_
    show specK l s = _
    simp [specK, hwhat]

set_option maxHeartbeats 1000000 in
set_option maxRecDepth 100000 in
theorem queue2_5 (B kb lv fv sv gv : Nat) (l : List Int) (F : Nat → Prop) (s : StepD) (A : Option Addr) (c : Nat) (w : World) (_hB : B ≤ w.heap.size) (_hl : l.length ≤ 1099511627776) (h : SInv B kb sv w (l) F) (hwhat : s.what = 5) :
    Calls Try.prog 27 #[.agg (s.cells (.slice A s.list.length c)), .pointer (some ⟨kb, 0, none⟩), .pointer (some ⟨lv, 0, none⟩), .pointer (some ⟨fv, 0, none⟩), .pointer (some ⟨sv, 0, none⟩), .pointer (some ⟨gv, 0, none⟩)] w
      (Stepped (mach2 B kb lv fv sv gv) (l) F s (fun _ e _ => ∃ u pv, e = .panicked [{ v := .iface u pv, recovered := false }]) w) := by
  have HI := hide h
  have hk := h.kb
  have hc1 : w.cell? ⟨kb, 0, none⟩ = some (.int .i64 2) := by rw [hk.cell]; rfl
  have hl1 := hk.lt
  have hst0 := start_facts w (s.cells (.slice A s.list.length c)) #[.int .i64 0, .bool false, .slice none 0 0, .bool false]
  have HI0 : Hid (SInv B kb sv ((w.alloc (.cells (s.cells (.slice A s.list.length c)) 29)).alloc (.cells #[.int .i64 0, .bool false, .slice none 0 0, .bool false] 46)) (l) F) := (mach2 B kb lv fv sv gv).keep (x := (l)) HI.out (Chg.ofBelow hst0.1 (fun _ => False)) (fun _ _ h => h)
  have HNF : Hid (¬ F (w.heap.size + 1)) := fun h => by have := (HI.out.lt _ h).2; omega
  have HB0 := hide hst0
  clear h hk hst0
  unfold StepD.cells at *
  rw [hwhat] at HB0 HI0 ⊢
  go_enter Try.func27, Try.ntmps27
  go_wp2
  refine bodyPost_ret (v := .agg ((zeroAns : AnsD).cells (.slice none 0 0))) ?_ rfl ?_
  · simp [results, Try.f27, go_sem, AnsD.cells, zeroAns]
  · refine done_ok (mach2 B kb lv fv sv gv) (x' := l) (a := zeroAns) (r := w.heap.size + 1) (F1 := F) (c := 0) ?_ rfl HI0.out (fun i hi => Or.inl hi) HNF.out (Nat.le_succ _) (Chg.ofBelow HB0.out.1 F) (Chg.refl _ _) SliceIs.none_
    show specK l s = _
    simp [specK, hwhat]

set_option maxHeartbeats 1000000 in
set_option maxRecDepth 100000 in
theorem queue2_6 (B kb lv fv sv gv : Nat) (l : List Int) (F : Nat → Prop) (s : StepD) (A : Option Addr) (c : Nat) (w : World) (_hB : B ≤ w.heap.size) (_hl : l.length ≤ 1099511627776) (h : SInv B kb sv w (l) F) (hwhat : s.what = 6) :
    Calls Try.prog 27 #[.agg (s.cells (.slice A s.list.length c)), .pointer (some ⟨kb, 0, none⟩), .pointer (some ⟨lv, 0, none⟩), .pointer (some ⟨fv, 0, none⟩), .pointer (some ⟨sv, 0, none⟩), .pointer (some ⟨gv, 0, none⟩)] w
      (Stepped (mach2 B kb lv fv sv gv) (l) F s (fun _ e _ => ∃ u pv, e = .panicked [{ v := .iface u pv, recovered := false }]) w) := by
  have HI := hide h
  have hk := h.kb
  have hc1 : w.cell? ⟨kb, 0, none⟩ = some (.int .i64 2) := by rw [hk.cell]; rfl
  have hl1 := hk.lt
  have hst0 := start_facts w (s.cells (.slice A s.list.length c)) #[.int .i64 0, .bool false, .slice none 0 0, .bool false]
  have HI0 : Hid (SInv B kb sv ((w.alloc (.cells (s.cells (.slice A s.list.length c)) 29)).alloc (.cells #[.int .i64 0, .bool false, .slice none 0 0, .bool false] 46)) (l) F) := (mach2 B kb lv fv sv gv).keep (x := (l)) HI.out (Chg.ofBelow hst0.1 (fun _ => False)) (fun _ _ h => h)
  have HNF : Hid (¬ F (w.heap.size + 1)) := fun h => by have := (HI.out.lt _ h).2; omega
  have HB0 := hide hst0
  clear h hk hst0
  unfold StepD.cells at *
  rw [hwhat] at HB0 HI0 ⊢
  go_enter Try.func27, Try.ntmps27
  go_wp2
  refine bodyPost_ret (v := .agg ((zeroAns : AnsD).cells (.slice none 0 0))) ?_ rfl ?_
  · simp [results, Try.f27, go_sem, AnsD.cells, zeroAns]
  · refine done_ok (mach2 B kb lv fv sv gv) (x' := l) (a := zeroAns) (r := w.heap.size + 1) (F1 := F) (c := 0) ?_ rfl HI0.out (fun i hi => Or.inl hi) HNF.out (Nat.le_succ _) (Chg.ofBelow HB0.out.1 F) (Chg.refl _ _) SliceIs.none_
    show specK l s = _
    simp [specK, hwhat]

theorem mach2_ok (B kb lv fv sv gv : Nat) : (mach2 B kb lv fv sv gv).Ok := by
  intro x F s LA lc w hg hI hs
  have hB : B ≤ w.heap.size := by have := (hI : SInv B kb sv w x F).lt kb hI.2.2.1; omega
  obtain ⟨h0, h6, hl⟩ := hg
  have : s.what = 0 ∨ s.what = 1 ∨ s.what = 2 ∨ s.what = 3 ∨ s.what = 4 ∨ s.what = 5 ∨ s.what = 6 := by omega
  rcases this with h | h | h | h | h | h | h
  · exact queue2_0 B kb lv fv sv gv x F s LA lc w hB hl hI h
  · rcases List.eq_nil_or_concat x with rfl | ⟨y, z, rfl⟩
    · exact queue2_1n B kb lv fv sv gv F s LA lc w hB hI h
    · rw [List.concat_eq_append] at hI hl ⊢
      exact queue2_1p B kb lv fv sv gv y z F s LA lc w hB (by simp at hl; omega) hI h
  · rcases List.eq_nil_or_concat x with rfl | ⟨y, z, rfl⟩
    · exact queue2_2n B kb lv fv sv gv F s LA lc w hB hI h
    · rw [List.concat_eq_append] at hI hl ⊢
      exact queue2_2p B kb lv fv sv gv y z F s LA lc w hB (by simp at hl; omega) hI h
  · exact queue2_3 B kb lv fv sv gv x F s LA lc w hB hl hI h
  · exact queue2_4 B kb lv fv sv gv x F s LA lc w hB hl hI h
  · exact queue2_5 B kb lv fv sv gv x F s LA lc w hB hl hI h
  · exact queue2_6 B kb lv fv sv gv x F s LA lc w hB hl hI h
end Go.Proofs.Ytammpllfmbmdmaa
