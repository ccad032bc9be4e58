/- The closure of impl.Bits as a machine. Printed by gen_bd.py. -/
import Derived.Test.YtammpllfmbmdmaaBv5
namespace Go.Proofs.Ytammpllfmbmdmaa
open Go.RowKit

/-- A step over a row of bits. -/
def stepB (l : List Int) (s : StepD) : List Int × Option AnsD :=
  if s.what = 0 then (l ++ [s.bit], some zeroAns)
  else if s.what = 1 then (l.set s.index.toNat s.bit, some zeroAns)
  else if s.what = 2 then (l.take s.index.toNat ++ s.bit :: l.drop s.index.toNat, some zeroAns)
  else if s.what = 3 then (l.eraseIdx s.index.toNat, some zeroAns)
  else if s.what = 4 then (l, some ⟨l.getD s.index.toNat 0, false, [], false⟩)
  else (l, some ⟨l.length, false, [], false⟩)

/-- The steps that the statements speak of. -/
def goodB (l : List Int) (s : StepD) : Prop :=
  l.length ≤ 9999 ∧ ((s.what = 0 ∧ (s.bit = 0 ∨ s.bit = 1)) ∨ ((s.what = 1 ∨ s.what = 2) ∧ (s.bit = 0 ∨ s.bit = 1) ∧ 0 ≤ s.index ∧ s.index < l.length) ∨ ((s.what = 3 ∨ s.what = 4) ∧ 0 ≤ s.index ∧ s.index < l.length) ∨ s.what = 5)

def BInv (B vv : Nat) (w : World) (l : List Int) (F : Nat → Prop) : Prop :=
  (∃ g v D, Blk w vv 78 #[.pointer (some ⟨g, 0, none⟩)] ∧ BV w B g v l.length D ∧ VecIs D l ∧ F g ∧ ∀ i, v.ownBlock = some i → F i) ∧ F vv ∧ ∀ i, F i → B ≤ i ∧ i < w.heap.size

/-- The machine of a vector of bits. -/
def machB (B vv : Nat) : Mach (List Int) where
  B := B
  id := 51
  caps := #[.pointer (some ⟨vv, 0, none⟩)]
  enters := Try.call51
  Inv := BInv B vv
  stp := stepB
  good := goodB
  keep := fun {w w' x F S} h hc hd => by
    obtain ⟨⟨g, v, D, h1, h2, h3, h4, h5⟩, h6, h7⟩ := h
    exact ⟨⟨g, v, D, h1.chg hc (hd _ h6), h2.chg hc (hd _ h4) (fun i hi => hd _ (h5 i hi)), h3, h4, h5⟩, h6, fun i hi => ⟨(h7 i hi).1, Nat.lt_of_lt_of_le (h7 i hi).2 hc.size⟩⟩
  lt := fun {w x F} h => h.2.2

theorem BInv.lt {B vv : Nat} {w : World} {l : List Int} {F : Nat → Prop} (h : BInv B vv w l F) : ∀ i, F i → B ≤ i ∧ i < w.heap.size := h.2.2

theorem BInv.after {B vv g n' : Nat} {w w1 : World} {l l' : List Int} {F : Nat → Prop} {v : Value} {D : List Nat} (h : BInv B vv w l F) (hvv : Blk w vv 78 #[.pointer (some ⟨g, 0, none⟩)]) (hbv : BV w B g v l.length D) (hg : F g) (hv : ∀ i, v.ownBlock = some i → F i)
    (ht : BVTo B g v n' (fun D' => VecIs D' l') w w1) (hl : n' = l'.length) : ∃ F1, BInv B vv w1 l' F1 ∧ (∀ i, F1 i → F i ∨ w.heap.size ≤ i) ∧ Chg F w w1 := by
  subst hl
  obtain ⟨_, h6, h7⟩ := h
  obtain ⟨⟨v', D', hb', hv', hq⟩, hc⟩ := ht
  have hcF : Chg F w w1 := hc.mono (fun i _ e => e.elim (fun e => e ▸ hg) (hv i))
  have hkv : Blk w1 vv 78 #[.pointer (some ⟨g, 0, none⟩)] := hvv.chg hc (fun e => by
    rcases e with e | e
    · exact hvv.ne_ hbv.blk (by decide) e
    · obtain ⟨cs, hcs⟩ := own_blk hbv.row e
      exact hcs.ne_ hvv (by decide) rfl)
  refine ⟨fun i => F i ∨ v'.ownBlock = some i, ⟨⟨g, v', D', hkv, hb', hq, Or.inl hg, fun i hi => Or.inr hi⟩, Or.inl h6, fun i hi => ?_⟩, fun i hi => hi.elim Or.inl (fun e => (hv' i e).imp (hv i) id), hcF⟩
  rcases hi with hi | hi
  · exact ⟨(h7 i hi).1, Nat.lt_of_lt_of_le (h7 i hi).2 hc.size⟩
  · exact hb'.row.lt i hi

theorem VecIs.bit {D : List Nat} {l : List Int} (h : VecIs D l) {i : Nat} (hi : i < l.length) : l.getD i 0 = 0 ∨ l.getD i 0 = 1 := by
  rw [h.at_ hi]
  have : i % 8 = 0 ∨ i % 8 = 1 ∨ i % 8 = 2 ∨ i % 8 = 3 ∨ i % 8 = 4 ∨ i % 8 = 5 ∨ i % 8 = 6 ∨ i % 8 = 7 := by omega
  rcases this with e | e | e | e | e | e | e | e <;> rw [e] <;> simp [bitsB] <;> omega

set_option maxHeartbeats 1000000 in
set_option maxRecDepth 100000 in
theorem queueB_00 (B vv : Nat) (l : List Int) (F : Nat → Prop) (s : StepD) (A : Option Addr) (c : Nat) (w : World) (_hB : B ≤ w.heap.size) (_hl : l.length ≤ 9999) (h : BInv B vv w l F) (hwhat : s.what = 0) (hbit : s.bit = 0) :
    Calls Try.prog 51 #[.agg (s.cells (.slice A s.list.length c)), .pointer (some ⟨vv, 0, none⟩)] w
      (Stepped (machB B vv) l F s (fun _ e _ => ∃ u pv, e = .panicked [{ v := .iface u pv, recovered := false }]) w) := by
  have HI := hide h
  have hst0 := start_facts w (s.cells (.slice A s.list.length c)) #[.int .i64 0, .bool false, .slice none 0 0, .bool false]
  have HI0 : Hid (BInv B vv ((w.alloc (.cells (s.cells (.slice A s.list.length c)) 29)).alloc (.cells #[.int .i64 0, .bool false, .slice none 0 0, .bool false] 46)) l F) := (machB B vv).keep (x := l) HI.out (Chg.ofBelow hst0.1 (fun _ => False)) (fun _ _ h => h)
  have HNF : Hid (¬ F (w.heap.size + 1)) := fun h => by have := (HI.out.lt _ h).2; omega
  have HB0 := hide hst0
  obtain ⟨⟨g, v, D, hvv, hbv, hvec, hg, hv⟩, _, _⟩ := h
  have hc1 : w.cell? ⟨vv, 0, none⟩ = some (.pointer (some ⟨g, 0, none⟩)) := by rw [hvv.cell]; rfl
  have hl1 := hvv.lt
  have HVV : Hid (Blk ((w.alloc (.cells (s.cells (.slice A s.list.length c)) 29)).alloc (.cells #[.int .i64 0, .bool false, .slice none 0 0, .bool false] 46)) vv 78 #[.pointer (some ⟨g, 0, none⟩)]) := (hvv.alloc _).alloc _
  have HBV : Hid (BV ((w.alloc (.cells (s.cells (.slice A s.list.length c)) 29)).alloc (.cells #[.int .i64 0, .bool false, .slice none 0 0, .bool false] 46)) B g v l.length D) := hbv.chg (Chg.ofBelow hst0.1 (fun _ => False)) (fun h => h) (fun _ _ h => h)
  have HVEC := hide hvec
  have HFG := hide hg
  have HFV := hide hv
  clear hst0 hvv hbv hvec hg hv
  unfold StepD.cells at *
  rw [hwhat] at HB0 HI0 HVV HBV ⊢
  rw [hbit] at HB0 HI0 HVV HBV ⊢
  go_enter Try.func51, Try.ntmps51
  go_wp2_with fail
  generalize (w.alloc (.cells #[.int .i64 0, .int .i64 s.which, .int .i64 s.index, .int .i64 0, .int .i64 s.n, .int .i64 s.key, .int .i64 s.value, .slice A s.list.length c] 29)).alloc (.cells #[.int .i64 0, .bool false, .slice none 0 0, .bool false] 46) = W at *
  refine (bvx_append B g v D l W 0 (by omega) HBV.out HVEC.out (by omega) (by have := HB0.out.2.2; omega)).mono ?_
  rintro e w1 ⟨rfl, hto⟩
  obtain ⟨F1, hi1, hf1, hcf⟩ := HI0.out.after HVV.out HBV.out HFG.out HFV.out hto (by simp)
  have HI1 := hide hi1
  have HF1 := hide hf1
  have HCF := hide hcf
  clear hto hi1 hf1 hcf
  have hz := HB0.out.2.1.chg HCF.out HNF.out
  have k0 : w1.cell? ⟨w.heap.size + 1, 0, none⟩ = some (.int .i64 0) := by rw [hz.cell]; rfl
  have k1 : w1.cell? ⟨w.heap.size + 1, 1, none⟩ = some (.bool false) := by rw [hz.cell]; rfl
  have k2 : w1.cell? ⟨w.heap.size + 1, 2, none⟩ = some (.slice none 0 0) := by rw [hz.cell]; rfl
  have k3 : w1.cell? ⟨w.heap.size + 1, 3, none⟩ = some (.bool false) := by rw [hz.cell]; rfl
  have f0 := hz.frozen 0
  have f1 := hz.frozen 1
  have f2 := hz.frozen 2
  have f3 := hz.frozen 3
  have HZ := hide hz
  clear hz
  go_wp2
  refine bodyPost_ret (v := .agg ((zeroAns : AnsD).cells (.slice none 0 0))) ?_ rfl ?_
  · simp [results, Try.f51, go_sem, k0, k1, k2, k3, AnsD.cells, zeroAns]
  · refine done_ok (machB B vv) (x' := l ++ [0]) (a := zeroAns) (r := w.heap.size + 1) (w1 := w1) (F1 := F1) (c := 0) ?_ rfl HI1.out (fun i hi => (HF1.out i hi).imp id (fun e => by have := HB0.out.2.2; omega)) ?_ (Nat.le_succ _) ((Chg.ofBelow HB0.out.1 F).trans HCF.out (fun _ _ h => h)) ?_ SliceIs.none_
    · show stepB l s = _
      simp [stepB, hwhat, hbit]
    · exact fun h => (HF1.out _ h).elim HNF.out (fun e => by have := HB0.out.2.2; omega)
    · first | exact Chg.refl _ _ | exact set4_chg _ _ _ _ _ _

set_option maxHeartbeats 1000000 in
set_option maxRecDepth 100000 in
theorem queueB_10 (B vv : Nat) (l : List Int) (F : Nat → Prop) (s : StepD) (A : Option Addr) (c : Nat) (w : World) (_hB : B ≤ w.heap.size) (_hl : l.length ≤ 9999) (h : BInv B vv w l F) (hwhat : s.what = 1) (hbit : s.bit = 0) (i : Nat) (hidx : s.index = i) (hil : i < l.length) :
    Calls Try.prog 51 #[.agg (s.cells (.slice A s.list.length c)), .pointer (some ⟨vv, 0, none⟩)] w
      (Stepped (machB B vv) l F s (fun _ e _ => ∃ u pv, e = .panicked [{ v := .iface u pv, recovered := false }]) w) := by
  have HI := hide h
  have hst0 := start_facts w (s.cells (.slice A s.list.length c)) #[.int .i64 0, .bool false, .slice none 0 0, .bool false]
  have HI0 : Hid (BInv B vv ((w.alloc (.cells (s.cells (.slice A s.list.length c)) 29)).alloc (.cells #[.int .i64 0, .bool false, .slice none 0 0, .bool false] 46)) l F) := (machB B vv).keep (x := l) HI.out (Chg.ofBelow hst0.1 (fun _ => False)) (fun _ _ h => h)
  have HNF : Hid (¬ F (w.heap.size + 1)) := fun h => by have := (HI.out.lt _ h).2; omega
  have HB0 := hide hst0
  obtain ⟨⟨g, v, D, hvv, hbv, hvec, hg, hv⟩, _, _⟩ := h
  have hc1 : w.cell? ⟨vv, 0, none⟩ = some (.pointer (some ⟨g, 0, none⟩)) := by rw [hvv.cell]; rfl
  have hl1 := hvv.lt
  have HVV : Hid (Blk ((w.alloc (.cells (s.cells (.slice A s.list.length c)) 29)).alloc (.cells #[.int .i64 0, .bool false, .slice none 0 0, .bool false] 46)) vv 78 #[.pointer (some ⟨g, 0, none⟩)]) := (hvv.alloc _).alloc _
  have HBV : Hid (BV ((w.alloc (.cells (s.cells (.slice A s.list.length c)) 29)).alloc (.cells #[.int .i64 0, .bool false, .slice none 0 0, .bool false] 46)) B g v l.length D) := hbv.chg (Chg.ofBelow hst0.1 (fun _ => False)) (fun h => h) (fun _ _ h => h)
  have HVEC := hide hvec
  have HFG := hide hg
  have HFV := hide hv
  clear hst0 hvv hbv hvec hg hv
  unfold StepD.cells at *
  rw [hwhat] at HB0 HI0 HVV HBV ⊢
  rw [hbit] at HB0 HI0 HVV HBV ⊢
  rw [hidx] at HB0 HI0 HVV HBV ⊢
  go_enter Try.func51, Try.ntmps51
  go_wp2_with fail
  generalize (w.alloc (.cells #[.int .i64 1, .int .i64 s.which, .int .i64 i, .int .i64 0, .int .i64 s.n, .int .i64 s.key, .int .i64 s.value, .slice A s.list.length c] 29)).alloc (.cells #[.int .i64 0, .bool false, .slice none 0 0, .bool false] 46) = W at *
  refine (bvx_set B g v D l W 0 (by omega) i HBV.out HVEC.out hil (by omega)).mono ?_
  rintro e w1 ⟨rfl, hto⟩
  obtain ⟨F1, hi1, hf1, hcf⟩ := HI0.out.after HVV.out HBV.out HFG.out HFV.out hto (by simp)
  have HI1 := hide hi1
  have HF1 := hide hf1
  have HCF := hide hcf
  clear hto hi1 hf1 hcf
  have hz := HB0.out.2.1.chg HCF.out HNF.out
  have k0 : w1.cell? ⟨w.heap.size + 1, 0, none⟩ = some (.int .i64 0) := by rw [hz.cell]; rfl
  have k1 : w1.cell? ⟨w.heap.size + 1, 1, none⟩ = some (.bool false) := by rw [hz.cell]; rfl
  have k2 : w1.cell? ⟨w.heap.size + 1, 2, none⟩ = some (.slice none 0 0) := by rw [hz.cell]; rfl
  have k3 : w1.cell? ⟨w.heap.size + 1, 3, none⟩ = some (.bool false) := by rw [hz.cell]; rfl
  have f0 := hz.frozen 0
  have f1 := hz.frozen 1
  have f2 := hz.frozen 2
  have f3 := hz.frozen 3
  have HZ := hide hz
  clear hz
  go_wp2
  refine bodyPost_ret (v := .agg ((zeroAns : AnsD).cells (.slice none 0 0))) ?_ rfl ?_
  · simp [results, Try.f51, go_sem, k0, k1, k2, k3, AnsD.cells, zeroAns]
  · refine done_ok (machB B vv) (x' := l.set i 0) (a := zeroAns) (r := w.heap.size + 1) (w1 := w1) (F1 := F1) (c := 0) ?_ rfl HI1.out (fun i hi => (HF1.out i hi).imp id (fun e => by have := HB0.out.2.2; omega)) ?_ (Nat.le_succ _) ((Chg.ofBelow HB0.out.1 F).trans HCF.out (fun _ _ h => h)) ?_ SliceIs.none_
    · show stepB l s = _
      simp [stepB, hwhat, hbit, hidx]
    · exact fun h => (HF1.out _ h).elim HNF.out (fun e => by have := HB0.out.2.2; omega)
    · first | exact Chg.refl _ _ | exact set4_chg _ _ _ _ _ _

set_option maxHeartbeats 1000000 in
set_option maxRecDepth 100000 in
theorem queueB_20 (B vv : Nat) (l : List Int) (F : Nat → Prop) (s : StepD) (A : Option Addr) (c : Nat) (w : World) (_hB : B ≤ w.heap.size) (_hl : l.length ≤ 9999) (h : BInv B vv w l F) (hwhat : s.what = 2) (hbit : s.bit = 0) (i : Nat) (hidx : s.index = i) (hil : i < l.length) :
    Calls Try.prog 51 #[.agg (s.cells (.slice A s.list.length c)), .pointer (some ⟨vv, 0, none⟩)] w
      (Stepped (machB B vv) l F s (fun _ e _ => ∃ u pv, e = .panicked [{ v := .iface u pv, recovered := false }]) w) := by
  have HI := hide h
  have hst0 := start_facts w (s.cells (.slice A s.list.length c)) #[.int .i64 0, .bool false, .slice none 0 0, .bool false]
  have HI0 : Hid (BInv B vv ((w.alloc (.cells (s.cells (.slice A s.list.length c)) 29)).alloc (.cells #[.int .i64 0, .bool false, .slice none 0 0, .bool false] 46)) l F) := (machB B vv).keep (x := l) HI.out (Chg.ofBelow hst0.1 (fun _ => False)) (fun _ _ h => h)
  have HNF : Hid (¬ F (w.heap.size + 1)) := fun h => by have := (HI.out.lt _ h).2; omega
  have HB0 := hide hst0
  obtain ⟨⟨g, v, D, hvv, hbv, hvec, hg, hv⟩, _, _⟩ := h
  have hc1 : w.cell? ⟨vv, 0, none⟩ = some (.pointer (some ⟨g, 0, none⟩)) := by rw [hvv.cell]; rfl
  have hl1 := hvv.lt
  have HVV : Hid (Blk ((w.alloc (.cells (s.cells (.slice A s.list.length c)) 29)).alloc (.cells #[.int .i64 0, .bool false, .slice none 0 0, .bool false] 46)) vv 78 #[.pointer (some ⟨g, 0, none⟩)]) := (hvv.alloc _).alloc _
  have HBV : Hid (BV ((w.alloc (.cells (s.cells (.slice A s.list.length c)) 29)).alloc (.cells #[.int .i64 0, .bool false, .slice none 0 0, .bool false] 46)) B g v l.length D) := hbv.chg (Chg.ofBelow hst0.1 (fun _ => False)) (fun h => h) (fun _ _ h => h)
  have HVEC := hide hvec
  have HFG := hide hg
  have HFV := hide hv
  clear hst0 hvv hbv hvec hg hv
  unfold StepD.cells at *
  rw [hwhat] at HB0 HI0 HVV HBV ⊢
  rw [hbit] at HB0 HI0 HVV HBV ⊢
  rw [hidx] at HB0 HI0 HVV HBV ⊢
  go_enter Try.func51, Try.ntmps51
  go_wp2_with fail
  generalize (w.alloc (.cells #[.int .i64 2, .int .i64 s.which, .int .i64 i, .int .i64 0, .int .i64 s.n, .int .i64 s.key, .int .i64 s.value, .slice A s.list.length c] 29)).alloc (.cells #[.int .i64 0, .bool false, .slice none 0 0, .bool false] 46) = W at *
  refine (bvx_insert B g v D l W 0 (by omega) i HBV.out HVEC.out hil (by omega) (by have := HB0.out.2.2; omega)).mono ?_
  rintro e w1 ⟨rfl, hto⟩
  obtain ⟨F1, hi1, hf1, hcf⟩ := HI0.out.after HVV.out HBV.out HFG.out HFV.out hto (by simp; omega)
  have HI1 := hide hi1
  have HF1 := hide hf1
  have HCF := hide hcf
  clear hto hi1 hf1 hcf
  have hz := HB0.out.2.1.chg HCF.out HNF.out
  have k0 : w1.cell? ⟨w.heap.size + 1, 0, none⟩ = some (.int .i64 0) := by rw [hz.cell]; rfl
  have k1 : w1.cell? ⟨w.heap.size + 1, 1, none⟩ = some (.bool false) := by rw [hz.cell]; rfl
  have k2 : w1.cell? ⟨w.heap.size + 1, 2, none⟩ = some (.slice none 0 0) := by rw [hz.cell]; rfl
  have k3 : w1.cell? ⟨w.heap.size + 1, 3, none⟩ = some (.bool false) := by rw [hz.cell]; rfl
  have f0 := hz.frozen 0
  have f1 := hz.frozen 1
  have f2 := hz.frozen 2
  have f3 := hz.frozen 3
  have HZ := hide hz
  clear hz
  go_wp2
  refine bodyPost_ret (v := .agg ((zeroAns : AnsD).cells (.slice none 0 0))) ?_ rfl ?_
  · simp [results, Try.f51, go_sem, k0, k1, k2, k3, AnsD.cells, zeroAns]
  · refine done_ok (machB B vv) (x' := l.take i ++ 0 :: l.drop i) (a := zeroAns) (r := w.heap.size + 1) (w1 := w1) (F1 := F1) (c := 0) ?_ rfl HI1.out (fun i hi => (HF1.out i hi).imp id (fun e => by have := HB0.out.2.2; omega)) ?_ (Nat.le_succ _) ((Chg.ofBelow HB0.out.1 F).trans HCF.out (fun _ _ h => h)) ?_ SliceIs.none_
    · show stepB l s = _
      simp [stepB, hwhat, hbit, hidx]
    · exact fun h => (HF1.out _ h).elim HNF.out (fun e => by have := HB0.out.2.2; omega)
    · first | exact Chg.refl _ _ | exact set4_chg _ _ _ _ _ _

set_option maxHeartbeats 1000000 in
set_option maxRecDepth 100000 in
theorem queueB_40 (B vv : Nat) (l : List Int) (F : Nat → Prop) (s : StepD) (A : Option Addr) (c : Nat) (w : World) (_hB : B ≤ w.heap.size) (_hl : l.length ≤ 9999) (h : BInv B vv w l F) (hwhat : s.what = 4) (i : Nat) (hidx : s.index = i) (hil : i < l.length) (hx : l.getD i 0 = 0) :
    Calls Try.prog 51 #[.agg (s.cells (.slice A s.list.length c)), .pointer (some ⟨vv, 0, none⟩)] w
      (Stepped (machB B vv) l F s (fun _ e _ => ∃ u pv, e = .panicked [{ v := .iface u pv, recovered := false }]) w) := by
  have HI := hide h
  have hst0 := start_facts w (s.cells (.slice A s.list.length c)) #[.int .i64 0, .bool false, .slice none 0 0, .bool false]
  have HI0 : Hid (BInv B vv ((w.alloc (.cells (s.cells (.slice A s.list.length c)) 29)).alloc (.cells #[.int .i64 0, .bool false, .slice none 0 0, .bool false] 46)) l F) := (machB B vv).keep (x := l) HI.out (Chg.ofBelow hst0.1 (fun _ => False)) (fun _ _ h => h)
  have HNF : Hid (¬ F (w.heap.size + 1)) := fun h => by have := (HI.out.lt _ h).2; omega
  have HB0 := hide hst0
  obtain ⟨⟨g, v, D, hvv, hbv, hvec, hg, hv⟩, _, _⟩ := h
  have hc1 : w.cell? ⟨vv, 0, none⟩ = some (.pointer (some ⟨g, 0, none⟩)) := by rw [hvv.cell]; rfl
  have hl1 := hvv.lt
  have HVV : Hid (Blk ((w.alloc (.cells (s.cells (.slice A s.list.length c)) 29)).alloc (.cells #[.int .i64 0, .bool false, .slice none 0 0, .bool false] 46)) vv 78 #[.pointer (some ⟨g, 0, none⟩)]) := (hvv.alloc _).alloc _
  have HBV : Hid (BV ((w.alloc (.cells (s.cells (.slice A s.list.length c)) 29)).alloc (.cells #[.int .i64 0, .bool false, .slice none 0 0, .bool false] 46)) B g v l.length D) := hbv.chg (Chg.ofBelow hst0.1 (fun _ => False)) (fun h => h) (fun _ _ h => h)
  have HVEC := hide hvec
  have HFG := hide hg
  have HFV := hide hv
  clear hst0 hvv hbv hvec hg hv
  unfold StepD.cells at *
  rw [hwhat] at HB0 HI0 HVV HBV ⊢
  rw [hidx] at HB0 HI0 HVV HBV ⊢
  go_enter Try.func51, Try.ntmps51
  go_wp2_with fail
  generalize (w.alloc (.cells #[.int .i64 4, .int .i64 s.which, .int .i64 i, .int .i64 s.bit, .int .i64 s.n, .int .i64 s.key, .int .i64 s.value, .slice A s.list.length c] 29)).alloc (.cells #[.int .i64 0, .bool false, .slice none 0 0, .bool false] 46) = W at *
  have hel := bvx_element B g v D l W i HBV.out HVEC.out hil (by omega)
  rw [hx] at hel
  refine hel.mono ?_
  clear hel
  rintro e w1 ⟨rfl, hw1⟩
  have HCS : Hid (Chg (fun _ => False) W w1) := by rw [hw1]; exact (Chg.refl _ _)
  have HX := hide hx
  clear hw1 hx
  obtain ⟨F1, hF1e⟩ : ∃ F1 : Nat → Prop, F1 = F := ⟨_, rfl⟩
  have HI1 : Hid (BInv B vv w1 l F1) := by rw [hF1e]; exact (machB B vv).keep (x := l) HI0.out HCS.out (fun _ _ h => h)
  have HF1 : Hid (∀ i, F1 i → F i ∨ W.heap.size ≤ i) := fun i hi => by rw [hF1e] at hi; exact Or.inl hi
  have HCF : Hid (Chg F W w1) := HCS.out.mono (fun _ _ h => h.elim)
  clear hF1e
  have hz := HB0.out.2.1.chg HCF.out HNF.out
  have k0 : w1.cell? ⟨w.heap.size + 1, 0, none⟩ = some (.int .i64 0) := by rw [hz.cell]; rfl
  have k1 : w1.cell? ⟨w.heap.size + 1, 1, none⟩ = some (.bool false) := by rw [hz.cell]; rfl
  have k2 : w1.cell? ⟨w.heap.size + 1, 2, none⟩ = some (.slice none 0 0) := by rw [hz.cell]; rfl
  have k3 : w1.cell? ⟨w.heap.size + 1, 3, none⟩ = some (.bool false) := by rw [hz.cell]; rfl
  have f0 := hz.frozen 0
  have f1 := hz.frozen 1
  have f2 := hz.frozen 2
  have f3 := hz.frozen 3
  have HZ := hide hz
  clear hz
  go_wp2
  refine bodyPost_ret (v := .agg ((⟨0, false, [], false⟩ : AnsD).cells (.slice none 0 0))) ?_ rfl ?_
  · simp [results, Try.f51, go_sem, k0, k1, k2, k3, AnsD.cells]
  · refine done_ok (machB B vv) (x' := l) (a := ⟨0, false, [], false⟩) (r := w.heap.size + 1) (w1 := w1) (F1 := F1) (c := 0) ?_ rfl HI1.out (fun i hi => (HF1.out i hi).imp id (fun e => by have := HB0.out.2.2; omega)) ?_ (Nat.le_succ _) ((Chg.ofBelow HB0.out.1 F).trans HCF.out (fun _ _ h => h)) ?_ SliceIs.none_
    · show stepB l s = _
      have h9 := HX.out
      rw [List.getD_eq_getElem?_getD] at h9
      simp [stepB, hwhat, hidx, h9]
    · exact fun h => (HF1.out _ h).elim HNF.out (fun e => by have := HB0.out.2.2; omega)
    · exact set5_chg _ _ _ _ _ _ _

set_option maxHeartbeats 1000000 in
set_option maxRecDepth 100000 in
theorem queueB_01 (B vv : Nat) (l : List Int) (F : Nat → Prop) (s : StepD) (A : Option Addr) (c : Nat) (w : World) (_hB : B ≤ w.heap.size) (_hl : l.length ≤ 9999) (h : BInv B vv w l F) (hwhat : s.what = 0) (hbit : s.bit = 1) :
    Calls Try.prog 51 #[.agg (s.cells (.slice A s.list.length c)), .pointer (some ⟨vv, 0, none⟩)] w
      (Stepped (machB B vv) l F s (fun _ e _ => ∃ u pv, e = .panicked [{ v := .iface u pv, recovered := false }]) w) := by
  have HI := hide h
  have hst0 := start_facts w (s.cells (.slice A s.list.length c)) #[.int .i64 0, .bool false, .slice none 0 0, .bool false]
  have HI0 : Hid (BInv B vv ((w.alloc (.cells (s.cells (.slice A s.list.length c)) 29)).alloc (.cells #[.int .i64 0, .bool false, .slice none 0 0, .bool false] 46)) l F) := (machB B vv).keep (x := l) HI.out (Chg.ofBelow hst0.1 (fun _ => False)) (fun _ _ h => h)
  have HNF : Hid (¬ F (w.heap.size + 1)) := fun h => by have := (HI.out.lt _ h).2; omega
  have HB0 := hide hst0
  obtain ⟨⟨g, v, D, hvv, hbv, hvec, hg, hv⟩, _, _⟩ := h
  have hc1 : w.cell? ⟨vv, 0, none⟩ = some (.pointer (some ⟨g, 0, none⟩)) := by rw [hvv.cell]; rfl
  have hl1 := hvv.lt
  have HVV : Hid (Blk ((w.alloc (.cells (s.cells (.slice A s.list.length c)) 29)).alloc (.cells #[.int .i64 0, .bool false, .slice none 0 0, .bool false] 46)) vv 78 #[.pointer (some ⟨g, 0, none⟩)]) := (hvv.alloc _).alloc _
  have HBV : Hid (BV ((w.alloc (.cells (s.cells (.slice A s.list.length c)) 29)).alloc (.cells #[.int .i64 0, .bool false, .slice none 0 0, .bool false] 46)) B g v l.length D) := hbv.chg (Chg.ofBelow hst0.1 (fun _ => False)) (fun h => h) (fun _ _ h => h)
  have HVEC := hide hvec
  have HFG := hide hg
  have HFV := hide hv
  clear hst0 hvv hbv hvec hg hv
  unfold StepD.cells at *
  rw [hwhat] at HB0 HI0 HVV HBV ⊢
  rw [hbit] at HB0 HI0 HVV HBV ⊢
  go_enter Try.func51, Try.ntmps51
  go_wp2_with fail
  generalize (w.alloc (.cells #[.int .i64 0, .int .i64 s.which, .int .i64 s.index, .int .i64 1, .int .i64 s.n, .int .i64 s.key, .int .i64 s.value, .slice A s.list.length c] 29)).alloc (.cells #[.int .i64 0, .bool false, .slice none 0 0, .bool false] 46) = W at *
  refine (bvx_append B g v D l W 1 (by omega) HBV.out HVEC.out (by omega) (by have := HB0.out.2.2; omega)).mono ?_
  rintro e w1 ⟨rfl, hto⟩
  obtain ⟨F1, hi1, hf1, hcf⟩ := HI0.out.after HVV.out HBV.out HFG.out HFV.out hto (by simp)
  have HI1 := hide hi1
  have HF1 := hide hf1
  have HCF := hide hcf
  clear hto hi1 hf1 hcf
  have hz := HB0.out.2.1.chg HCF.out HNF.out
  have k0 : w1.cell? ⟨w.heap.size + 1, 0, none⟩ = some (.int .i64 0) := by rw [hz.cell]; rfl
  have k1 : w1.cell? ⟨w.heap.size + 1, 1, none⟩ = some (.bool false) := by rw [hz.cell]; rfl
  have k2 : w1.cell? ⟨w.heap.size + 1, 2, none⟩ = some (.slice none 0 0) := by rw [hz.cell]; rfl
  have k3 : w1.cell? ⟨w.heap.size + 1, 3, none⟩ = some (.bool false) := by rw [hz.cell]; rfl
  have f0 := hz.frozen 0
  have f1 := hz.frozen 1
  have f2 := hz.frozen 2
  have f3 := hz.frozen 3
  have HZ := hide hz
  clear hz
  go_wp2
  refine bodyPost_ret (v := .agg ((zeroAns : AnsD).cells (.slice none 0 0))) ?_ rfl ?_
  · simp [results, Try.f51, go_sem, k0, k1, k2, k3, AnsD.cells, zeroAns]
  · refine done_ok (machB B vv) (x' := l ++ [1]) (a := zeroAns) (r := w.heap.size + 1) (w1 := w1) (F1 := F1) (c := 0) ?_ rfl HI1.out (fun i hi => (HF1.out i hi).imp id (fun e => by have := HB0.out.2.2; omega)) ?_ (Nat.le_succ _) ((Chg.ofBelow HB0.out.1 F).trans HCF.out (fun _ _ h => h)) ?_ SliceIs.none_
    · show stepB l s = _
      simp [stepB, hwhat, hbit]
    · exact fun h => (HF1.out _ h).elim HNF.out (fun e => by have := HB0.out.2.2; omega)
    · first | exact Chg.refl _ _ | exact set4_chg _ _ _ _ _ _

set_option maxHeartbeats 1000000 in
set_option maxRecDepth 100000 in
theorem queueB_11 (B vv : Nat) (l : List Int) (F : Nat → Prop) (s : StepD) (A : Option Addr) (c : Nat) (w : World) (_hB : B ≤ w.heap.size) (_hl : l.length ≤ 9999) (h : BInv B vv w l F) (hwhat : s.what = 1) (hbit : s.bit = 1) (i : Nat) (hidx : s.index = i) (hil : i < l.length) :
    Calls Try.prog 51 #[.agg (s.cells (.slice A s.list.length c)), .pointer (some ⟨vv, 0, none⟩)] w
      (Stepped (machB B vv) l F s (fun _ e _ => ∃ u pv, e = .panicked [{ v := .iface u pv, recovered := false }]) w) := by
  have HI := hide h
  have hst0 := start_facts w (s.cells (.slice A s.list.length c)) #[.int .i64 0, .bool false, .slice none 0 0, .bool false]
  have HI0 : Hid (BInv B vv ((w.alloc (.cells (s.cells (.slice A s.list.length c)) 29)).alloc (.cells #[.int .i64 0, .bool false, .slice none 0 0, .bool false] 46)) l F) := (machB B vv).keep (x := l) HI.out (Chg.ofBelow hst0.1 (fun _ => False)) (fun _ _ h => h)
  have HNF : Hid (¬ F (w.heap.size + 1)) := fun h => by have := (HI.out.lt _ h).2; omega
  have HB0 := hide hst0
  obtain ⟨⟨g, v, D, hvv, hbv, hvec, hg, hv⟩, _, _⟩ := h
  have hc1 : w.cell? ⟨vv, 0, none⟩ = some (.pointer (some ⟨g, 0, none⟩)) := by rw [hvv.cell]; rfl
  have hl1 := hvv.lt
  have HVV : Hid (Blk ((w.alloc (.cells (s.cells (.slice A s.list.length c)) 29)).alloc (.cells #[.int .i64 0, .bool false, .slice none 0 0, .bool false] 46)) vv 78 #[.pointer (some ⟨g, 0, none⟩)]) := (hvv.alloc _).alloc _
  have HBV : Hid (BV ((w.alloc (.cells (s.cells (.slice A s.list.length c)) 29)).alloc (.cells #[.int .i64 0, .bool false, .slice none 0 0, .bool false] 46)) B g v l.length D) := hbv.chg (Chg.ofBelow hst0.1 (fun _ => False)) (fun h => h) (fun _ _ h => h)
  have HVEC := hide hvec
  have HFG := hide hg
  have HFV := hide hv
  clear hst0 hvv hbv hvec hg hv
  unfold StepD.cells at *
  rw [hwhat] at HB0 HI0 HVV HBV ⊢
  rw [hbit] at HB0 HI0 HVV HBV ⊢
  rw [hidx] at HB0 HI0 HVV HBV ⊢
  go_enter Try.func51, Try.ntmps51
  go_wp2_with fail
  generalize (w.alloc (.cells #[.int .i64 1, .int .i64 s.which, .int .i64 i, .int .i64 1, .int .i64 s.n, .int .i64 s.key, .int .i64 s.value, .slice A s.list.length c] 29)).alloc (.cells #[.int .i64 0, .bool false, .slice none 0 0, .bool false] 46) = W at *
  refine (bvx_set B g v D l W 1 (by omega) i HBV.out HVEC.out hil (by omega)).mono ?_
  rintro e w1 ⟨rfl, hto⟩
  obtain ⟨F1, hi1, hf1, hcf⟩ := HI0.out.after HVV.out HBV.out HFG.out HFV.out hto (by simp)
  have HI1 := hide hi1
  have HF1 := hide hf1
  have HCF := hide hcf
  clear hto hi1 hf1 hcf
  have hz := HB0.out.2.1.chg HCF.out HNF.out
  have k0 : w1.cell? ⟨w.heap.size + 1, 0, none⟩ = some (.int .i64 0) := by rw [hz.cell]; rfl
  have k1 : w1.cell? ⟨w.heap.size + 1, 1, none⟩ = some (.bool false) := by rw [hz.cell]; rfl
  have k2 : w1.cell? ⟨w.heap.size + 1, 2, none⟩ = some (.slice none 0 0) := by rw [hz.cell]; rfl
  have k3 : w1.cell? ⟨w.heap.size + 1, 3, none⟩ = some (.bool false) := by rw [hz.cell]; rfl
  have f0 := hz.frozen 0
  have f1 := hz.frozen 1
  have f2 := hz.frozen 2
  have f3 := hz.frozen 3
  have HZ := hide hz
  clear hz
  go_wp2
  refine bodyPost_ret (v := .agg ((zeroAns : AnsD).cells (.slice none 0 0))) ?_ rfl ?_
  · simp [results, Try.f51, go_sem, k0, k1, k2, k3, AnsD.cells, zeroAns]
  · refine done_ok (machB B vv) (x' := l.set i 1) (a := zeroAns) (r := w.heap.size + 1) (w1 := w1) (F1 := F1) (c := 0) ?_ rfl HI1.out (fun i hi => (HF1.out i hi).imp id (fun e => by have := HB0.out.2.2; omega)) ?_ (Nat.le_succ _) ((Chg.ofBelow HB0.out.1 F).trans HCF.out (fun _ _ h => h)) ?_ SliceIs.none_
    · show stepB l s = _
      simp [stepB, hwhat, hbit, hidx]
    · exact fun h => (HF1.out _ h).elim HNF.out (fun e => by have := HB0.out.2.2; omega)
    · first | exact Chg.refl _ _ | exact set4_chg _ _ _ _ _ _

set_option maxHeartbeats 1000000 in
set_option maxRecDepth 100000 in
theorem queueB_21 (B vv : Nat) (l : List Int) (F : Nat → Prop) (s : StepD) (A : Option Addr) (c : Nat) (w : World) (_hB : B ≤ w.heap.size) (_hl : l.length ≤ 9999) (h : BInv B vv w l F) (hwhat : s.what = 2) (hbit : s.bit = 1) (i : Nat) (hidx : s.index = i) (hil : i < l.length) :
    Calls Try.prog 51 #[.agg (s.cells (.slice A s.list.length c)), .pointer (some ⟨vv, 0, none⟩)] w
      (Stepped (machB B vv) l F s (fun _ e _ => ∃ u pv, e = .panicked [{ v := .iface u pv, recovered := false }]) w) := by
  have HI := hide h
  have hst0 := start_facts w (s.cells (.slice A s.list.length c)) #[.int .i64 0, .bool false, .slice none 0 0, .bool false]
  have HI0 : Hid (BInv B vv ((w.alloc (.cells (s.cells (.slice A s.list.length c)) 29)).alloc (.cells #[.int .i64 0, .bool false, .slice none 0 0, .bool false] 46)) l F) := (machB B vv).keep (x := l) HI.out (Chg.ofBelow hst0.1 (fun _ => False)) (fun _ _ h => h)
  have HNF : Hid (¬ F (w.heap.size + 1)) := fun h => by have := (HI.out.lt _ h).2; omega
  have HB0 := hide hst0
  obtain ⟨⟨g, v, D, hvv, hbv, hvec, hg, hv⟩, _, _⟩ := h
  have hc1 : w.cell? ⟨vv, 0, none⟩ = some (.pointer (some ⟨g, 0, none⟩)) := by rw [hvv.cell]; rfl
  have hl1 := hvv.lt
  have HVV : Hid (Blk ((w.alloc (.cells (s.cells (.slice A s.list.length c)) 29)).alloc (.cells #[.int .i64 0, .bool false, .slice none 0 0, .bool false] 46)) vv 78 #[.pointer (some ⟨g, 0, none⟩)]) := (hvv.alloc _).alloc _
  have HBV : Hid (BV ((w.alloc (.cells (s.cells (.slice A s.list.length c)) 29)).alloc (.cells #[.int .i64 0, .bool false, .slice none 0 0, .bool false] 46)) B g v l.length D) := hbv.chg (Chg.ofBelow hst0.1 (fun _ => False)) (fun h => h) (fun _ _ h => h)
  have HVEC := hide hvec
  have HFG := hide hg
  have HFV := hide hv
  clear hst0 hvv hbv hvec hg hv
  unfold StepD.cells at *
  rw [hwhat] at HB0 HI0 HVV HBV ⊢
  rw [hbit] at HB0 HI0 HVV HBV ⊢
  rw [hidx] at HB0 HI0 HVV HBV ⊢
  go_enter Try.func51, Try.ntmps51
  go_wp2_with fail
  generalize (w.alloc (.cells #[.int .i64 2, .int .i64 s.which, .int .i64 i, .int .i64 1, .int .i64 s.n, .int .i64 s.key, .int .i64 s.value, .slice A s.list.length c] 29)).alloc (.cells #[.int .i64 0, .bool false, .slice none 0 0, .bool false] 46) = W at *
  refine (bvx_insert B g v D l W 1 (by omega) i HBV.out HVEC.out hil (by omega) (by have := HB0.out.2.2; omega)).mono ?_
  rintro e w1 ⟨rfl, hto⟩
  obtain ⟨F1, hi1, hf1, hcf⟩ := HI0.out.after HVV.out HBV.out HFG.out HFV.out hto (by simp; omega)
  have HI1 := hide hi1
  have HF1 := hide hf1
  have HCF := hide hcf
  clear hto hi1 hf1 hcf
  have hz := HB0.out.2.1.chg HCF.out HNF.out
  have k0 : w1.cell? ⟨w.heap.size + 1, 0, none⟩ = some (.int .i64 0) := by rw [hz.cell]; rfl
  have k1 : w1.cell? ⟨w.heap.size + 1, 1, none⟩ = some (.bool false) := by rw [hz.cell]; rfl
  have k2 : w1.cell? ⟨w.heap.size + 1, 2, none⟩ = some (.slice none 0 0) := by rw [hz.cell]; rfl
  have k3 : w1.cell? ⟨w.heap.size + 1, 3, none⟩ = some (.bool false) := by rw [hz.cell]; rfl
  have f0 := hz.frozen 0
  have f1 := hz.frozen 1
  have f2 := hz.frozen 2
  have f3 := hz.frozen 3
  have HZ := hide hz
  clear hz
  go_wp2
  refine bodyPost_ret (v := .agg ((zeroAns : AnsD).cells (.slice none 0 0))) ?_ rfl ?_
  · simp [results, Try.f51, go_sem, k0, k1, k2, k3, AnsD.cells, zeroAns]
  · refine done_ok (machB B vv) (x' := l.take i ++ 1 :: l.drop i) (a := zeroAns) (r := w.heap.size + 1) (w1 := w1) (F1 := F1) (c := 0) ?_ rfl HI1.out (fun i hi => (HF1.out i hi).imp id (fun e => by have := HB0.out.2.2; omega)) ?_ (Nat.le_succ _) ((Chg.ofBelow HB0.out.1 F).trans HCF.out (fun _ _ h => h)) ?_ SliceIs.none_
    · show stepB l s = _
      simp [stepB, hwhat, hbit, hidx]
    · exact fun h => (HF1.out _ h).elim HNF.out (fun e => by have := HB0.out.2.2; omega)
    · first | exact Chg.refl _ _ | exact set4_chg _ _ _ _ _ _

set_option maxHeartbeats 1000000 in
set_option maxRecDepth 100000 in
theorem queueB_41 (B vv : Nat) (l : List Int) (F : Nat → Prop) (s : StepD) (A : Option Addr) (c : Nat) (w : World) (_hB : B ≤ w.heap.size) (_hl : l.length ≤ 9999) (h : BInv B vv w l F) (hwhat : s.what = 4) (i : Nat) (hidx : s.index = i) (hil : i < l.length) (hx : l.getD i 0 = 1) :
    Calls Try.prog 51 #[.agg (s.cells (.slice A s.list.length c)), .pointer (some ⟨vv, 0, none⟩)] w
      (Stepped (machB B vv) l F s (fun _ e _ => ∃ u pv, e = .panicked [{ v := .iface u pv, recovered := false }]) w) := by
  have HI := hide h
  have hst0 := start_facts w (s.cells (.slice A s.list.length c)) #[.int .i64 0, .bool false, .slice none 0 0, .bool false]
  have HI0 : Hid (BInv B vv ((w.alloc (.cells (s.cells (.slice A s.list.length c)) 29)).alloc (.cells #[.int .i64 0, .bool false, .slice none 0 0, .bool false] 46)) l F) := (machB B vv).keep (x := l) HI.out (Chg.ofBelow hst0.1 (fun _ => False)) (fun _ _ h => h)
  have HNF : Hid (¬ F (w.heap.size + 1)) := fun h => by have := (HI.out.lt _ h).2; omega
  have HB0 := hide hst0
  obtain ⟨⟨g, v, D, hvv, hbv, hvec, hg, hv⟩, _, _⟩ := h
  have hc1 : w.cell? ⟨vv, 0, none⟩ = some (.pointer (some ⟨g, 0, none⟩)) := by rw [hvv.cell]; rfl
  have hl1 := hvv.lt
  have HVV : Hid (Blk ((w.alloc (.cells (s.cells (.slice A s.list.length c)) 29)).alloc (.cells #[.int .i64 0, .bool false, .slice none 0 0, .bool false] 46)) vv 78 #[.pointer (some ⟨g, 0, none⟩)]) := (hvv.alloc _).alloc _
  have HBV : Hid (BV ((w.alloc (.cells (s.cells (.slice A s.list.length c)) 29)).alloc (.cells #[.int .i64 0, .bool false, .slice none 0 0, .bool false] 46)) B g v l.length D) := hbv.chg (Chg.ofBelow hst0.1 (fun _ => False)) (fun h => h) (fun _ _ h => h)
  have HVEC := hide hvec
  have HFG := hide hg
  have HFV := hide hv
  clear hst0 hvv hbv hvec hg hv
  unfold StepD.cells at *
  rw [hwhat] at HB0 HI0 HVV HBV ⊢
  rw [hidx] at HB0 HI0 HVV HBV ⊢
  go_enter Try.func51, Try.ntmps51
  go_wp2_with fail
  generalize (w.alloc (.cells #[.int .i64 4, .int .i64 s.which, .int .i64 i, .int .i64 s.bit, .int .i64 s.n, .int .i64 s.key, .int .i64 s.value, .slice A s.list.length c] 29)).alloc (.cells #[.int .i64 0, .bool false, .slice none 0 0, .bool false] 46) = W at *
  have hel := bvx_element B g v D l W i HBV.out HVEC.out hil (by omega)
  rw [hx] at hel
  refine hel.mono ?_
  clear hel
  rintro e w1 ⟨rfl, hw1⟩
  have HCS : Hid (Chg (fun _ => False) W w1) := by rw [hw1]; exact (Chg.refl _ _)
  have HX := hide hx
  clear hw1 hx
  obtain ⟨F1, hF1e⟩ : ∃ F1 : Nat → Prop, F1 = F := ⟨_, rfl⟩
  have HI1 : Hid (BInv B vv w1 l F1) := by rw [hF1e]; exact (machB B vv).keep (x := l) HI0.out HCS.out (fun _ _ h => h)
  have HF1 : Hid (∀ i, F1 i → F i ∨ W.heap.size ≤ i) := fun i hi => by rw [hF1e] at hi; exact Or.inl hi
  have HCF : Hid (Chg F W w1) := HCS.out.mono (fun _ _ h => h.elim)
  clear hF1e
  have hz := HB0.out.2.1.chg HCF.out HNF.out
  have k0 : w1.cell? ⟨w.heap.size + 1, 0, none⟩ = some (.int .i64 0) := by rw [hz.cell]; rfl
  have k1 : w1.cell? ⟨w.heap.size + 1, 1, none⟩ = some (.bool false) := by rw [hz.cell]; rfl
  have k2 : w1.cell? ⟨w.heap.size + 1, 2, none⟩ = some (.slice none 0 0) := by rw [hz.cell]; rfl
  have k3 : w1.cell? ⟨w.heap.size + 1, 3, none⟩ = some (.bool false) := by rw [hz.cell]; rfl
  have f0 := hz.frozen 0
  have f1 := hz.frozen 1
  have f2 := hz.frozen 2
  have f3 := hz.frozen 3
  have HZ := hide hz
  clear hz
  go_wp2
  refine bodyPost_ret (v := .agg ((⟨1, false, [], false⟩ : AnsD).cells (.slice none 0 0))) ?_ rfl ?_
  · simp [results, Try.f51, go_sem, k0, k1, k2, k3, AnsD.cells]
  · refine done_ok (machB B vv) (x' := l) (a := ⟨1, false, [], false⟩) (r := w.heap.size + 1) (w1 := w1) (F1 := F1) (c := 0) ?_ rfl HI1.out (fun i hi => (HF1.out i hi).imp id (fun e => by have := HB0.out.2.2; omega)) ?_ (Nat.le_succ _) ((Chg.ofBelow HB0.out.1 F).trans HCF.out (fun _ _ h => h)) ?_ SliceIs.none_
    · show stepB l s = _
      have h9 := HX.out
      rw [List.getD_eq_getElem?_getD] at h9
      simp [stepB, hwhat, hidx, h9]
    · exact fun h => (HF1.out _ h).elim HNF.out (fun e => by have := HB0.out.2.2; omega)
    · exact set5_chg _ _ _ _ _ _ _

set_option maxHeartbeats 1000000 in
set_option maxRecDepth 100000 in
theorem queueB_3 (B vv : Nat) (l : List Int) (F : Nat → Prop) (s : StepD) (A : Option Addr) (c : Nat) (w : World) (_hB : B ≤ w.heap.size) (_hl : l.length ≤ 9999) (h : BInv B vv w l F) (hwhat : s.what = 3) (i : Nat) (hidx : s.index = i) (hil : i < l.length) :
    Calls Try.prog 51 #[.agg (s.cells (.slice A s.list.length c)), .pointer (some ⟨vv, 0, none⟩)] w
      (Stepped (machB B vv) l F s (fun _ e _ => ∃ u pv, e = .panicked [{ v := .iface u pv, recovered := false }]) w) := by
  have HI := hide h
  have hst0 := start_facts w (s.cells (.slice A s.list.length c)) #[.int .i64 0, .bool false, .slice none 0 0, .bool false]
  have HI0 : Hid (BInv B vv ((w.alloc (.cells (s.cells (.slice A s.list.length c)) 29)).alloc (.cells #[.int .i64 0, .bool false, .slice none 0 0, .bool false] 46)) l F) := (machB B vv).keep (x := l) HI.out (Chg.ofBelow hst0.1 (fun _ => False)) (fun _ _ h => h)
  have HNF : Hid (¬ F (w.heap.size + 1)) := fun h => by have := (HI.out.lt _ h).2; omega
  have HB0 := hide hst0
  obtain ⟨⟨g, v, D, hvv, hbv, hvec, hg, hv⟩, _, _⟩ := h
  have hc1 : w.cell? ⟨vv, 0, none⟩ = some (.pointer (some ⟨g, 0, none⟩)) := by rw [hvv.cell]; rfl
  have hl1 := hvv.lt
  have HVV : Hid (Blk ((w.alloc (.cells (s.cells (.slice A s.list.length c)) 29)).alloc (.cells #[.int .i64 0, .bool false, .slice none 0 0, .bool false] 46)) vv 78 #[.pointer (some ⟨g, 0, none⟩)]) := (hvv.alloc _).alloc _
  have HBV : Hid (BV ((w.alloc (.cells (s.cells (.slice A s.list.length c)) 29)).alloc (.cells #[.int .i64 0, .bool false, .slice none 0 0, .bool false] 46)) B g v l.length D) := hbv.chg (Chg.ofBelow hst0.1 (fun _ => False)) (fun h => h) (fun _ _ h => h)
  have HVEC := hide hvec
  have HFG := hide hg
  have HFV := hide hv
  clear hst0 hvv hbv hvec hg hv
  unfold StepD.cells at *
  rw [hwhat] at HB0 HI0 HVV HBV ⊢
  rw [hidx] at HB0 HI0 HVV HBV ⊢
  go_enter Try.func51, Try.ntmps51
  go_wp2_with fail
  generalize (w.alloc (.cells #[.int .i64 3, .int .i64 s.which, .int .i64 i, .int .i64 s.bit, .int .i64 s.n, .int .i64 s.key, .int .i64 s.value, .slice A s.list.length c] 29)).alloc (.cells #[.int .i64 0, .bool false, .slice none 0 0, .bool false] 46) = W at *
  refine (bvx_delete B g v D l W i HBV.out HVEC.out hil (by omega)).mono ?_
  rintro e w1 ⟨rfl, hto⟩
  obtain ⟨F1, hi1, hf1, hcf⟩ := HI0.out.after HVV.out HBV.out HFG.out HFV.out hto (by rw [List.length_eraseIdx, if_pos hil])
  have HI1 := hide hi1
  have HF1 := hide hf1
  have HCF := hide hcf
  clear hto hi1 hf1 hcf
  have hz := HB0.out.2.1.chg HCF.out HNF.out
  have k0 : w1.cell? ⟨w.heap.size + 1, 0, none⟩ = some (.int .i64 0) := by rw [hz.cell]; rfl
  have k1 : w1.cell? ⟨w.heap.size + 1, 1, none⟩ = some (.bool false) := by rw [hz.cell]; rfl
  have k2 : w1.cell? ⟨w.heap.size + 1, 2, none⟩ = some (.slice none 0 0) := by rw [hz.cell]; rfl
  have k3 : w1.cell? ⟨w.heap.size + 1, 3, none⟩ = some (.bool false) := by rw [hz.cell]; rfl
  have f0 := hz.frozen 0
  have f1 := hz.frozen 1
  have f2 := hz.frozen 2
  have f3 := hz.frozen 3
  have HZ := hide hz
  clear hz
  go_wp2
  refine bodyPost_ret (v := .agg ((zeroAns : AnsD).cells (.slice none 0 0))) ?_ rfl ?_
  · simp [results, Try.f51, go_sem, k0, k1, k2, k3, AnsD.cells, zeroAns]
  · refine done_ok (machB B vv) (x' := l.eraseIdx i) (a := zeroAns) (r := w.heap.size + 1) (w1 := w1) (F1 := F1) (c := 0) ?_ rfl HI1.out (fun i hi => (HF1.out i hi).imp id (fun e => by have := HB0.out.2.2; omega)) ?_ (Nat.le_succ _) ((Chg.ofBelow HB0.out.1 F).trans HCF.out (fun _ _ h => h)) ?_ SliceIs.none_
    · show stepB l s = _
      simp [stepB, hwhat, hidx]
    · exact fun h => (HF1.out _ h).elim HNF.out (fun e => by have := HB0.out.2.2; omega)
    · first | exact Chg.refl _ _ | exact set4_chg _ _ _ _ _ _

set_option maxHeartbeats 1000000 in
set_option maxRecDepth 100000 in
theorem queueB_5 (B vv : Nat) (l : List Int) (F : Nat → Prop) (s : StepD) (A : Option Addr) (c : Nat) (w : World) (_hB : B ≤ w.heap.size) (_hl : l.length ≤ 9999) (h : BInv B vv w l F) (hwhat : s.what = 5) :
    Calls Try.prog 51 #[.agg (s.cells (.slice A s.list.length c)), .pointer (some ⟨vv, 0, none⟩)] w
      (Stepped (machB B vv) l F s (fun _ e _ => ∃ u pv, e = .panicked [{ v := .iface u pv, recovered := false }]) w) := by
  have HI := hide h
  have hst0 := start_facts w (s.cells (.slice A s.list.length c)) #[.int .i64 0, .bool false, .slice none 0 0, .bool false]
  have HI0 : Hid (BInv B vv ((w.alloc (.cells (s.cells (.slice A s.list.length c)) 29)).alloc (.cells #[.int .i64 0, .bool false, .slice none 0 0, .bool false] 46)) l F) := (machB B vv).keep (x := l) HI.out (Chg.ofBelow hst0.1 (fun _ => False)) (fun _ _ h => h)
  have HNF : Hid (¬ F (w.heap.size + 1)) := fun h => by have := (HI.out.lt _ h).2; omega
  have HB0 := hide hst0
  obtain ⟨⟨g, v, D, hvv, hbv, hvec, hg, hv⟩, _, _⟩ := h
  have hc1 : w.cell? ⟨vv, 0, none⟩ = some (.pointer (some ⟨g, 0, none⟩)) := by rw [hvv.cell]; rfl
  have hl1 := hvv.lt
  have HVV : Hid (Blk ((w.alloc (.cells (s.cells (.slice A s.list.length c)) 29)).alloc (.cells #[.int .i64 0, .bool false, .slice none 0 0, .bool false] 46)) vv 78 #[.pointer (some ⟨g, 0, none⟩)]) := (hvv.alloc _).alloc _
  have HBV : Hid (BV ((w.alloc (.cells (s.cells (.slice A s.list.length c)) 29)).alloc (.cells #[.int .i64 0, .bool false, .slice none 0 0, .bool false] 46)) B g v l.length D) := hbv.chg (Chg.ofBelow hst0.1 (fun _ => False)) (fun h => h) (fun _ _ h => h)
  have HVEC := hide hvec
  have HFG := hide hg
  have HFV := hide hv
  clear hst0 hvv hbv hvec hg hv
  unfold StepD.cells at *
  rw [hwhat] at HB0 HI0 HVV HBV ⊢
  go_enter Try.func51, Try.ntmps51
  go_wp2_with fail
  generalize (w.alloc (.cells #[.int .i64 5, .int .i64 s.which, .int .i64 s.index, .int .i64 s.bit, .int .i64 s.n, .int .i64 s.key, .int .i64 s.value, .slice A s.list.length c] 29)).alloc (.cells #[.int .i64 0, .bool false, .slice none 0 0, .bool false] 46) = W at *
  refine (bv_length B g v l.length D W HBV.out).mono ?_
  rintro e w1 ⟨rfl, hw1⟩
  have HCS : Hid (Chg (fun _ => False) W w1) := by rw [hw1]; exact (Chg.refl _ _)
  clear hw1
  obtain ⟨F1, hF1e⟩ : ∃ F1 : Nat → Prop, F1 = F := ⟨_, rfl⟩
  have HI1 : Hid (BInv B vv w1 l F1) := by rw [hF1e]; exact (machB B vv).keep (x := l) HI0.out HCS.out (fun _ _ h => h)
  have HF1 : Hid (∀ i, F1 i → F i ∨ W.heap.size ≤ i) := fun i hi => by rw [hF1e] at hi; exact Or.inl hi
  have HCF : Hid (Chg F W w1) := HCS.out.mono (fun _ _ h => h.elim)
  clear hF1e
  generalize hlen : (l.length : Int) = ln at *
  have HLN := hide hlen
  clear hlen
  have hz := HB0.out.2.1.chg HCF.out HNF.out
  have k0 : w1.cell? ⟨w.heap.size + 1, 0, none⟩ = some (.int .i64 0) := by rw [hz.cell]; rfl
  have k1 : w1.cell? ⟨w.heap.size + 1, 1, none⟩ = some (.bool false) := by rw [hz.cell]; rfl
  have k2 : w1.cell? ⟨w.heap.size + 1, 2, none⟩ = some (.slice none 0 0) := by rw [hz.cell]; rfl
  have k3 : w1.cell? ⟨w.heap.size + 1, 3, none⟩ = some (.bool false) := by rw [hz.cell]; rfl
  have f0 := hz.frozen 0
  have f1 := hz.frozen 1
  have f2 := hz.frozen 2
  have f3 := hz.frozen 3
  have HZ := hide hz
  clear hz
  go_wp2
  refine bodyPost_ret (v := .agg ((⟨ln, false, [], false⟩ : AnsD).cells (.slice none 0 0))) ?_ rfl ?_
  · simp [results, Try.f51, go_sem, k0, k1, k2, k3, AnsD.cells]
  · refine done_ok (machB B vv) (x' := l) (a := ⟨ln, false, [], false⟩) (r := w.heap.size + 1) (w1 := w1) (F1 := F1) (c := 0) ?_ rfl HI1.out (fun i hi => (HF1.out i hi).imp id (fun e => by have := HB0.out.2.2; omega)) ?_ (Nat.le_succ _) ((Chg.ofBelow HB0.out.1 F).trans HCF.out (fun _ _ h => h)) ?_ SliceIs.none_
    · show stepB l s = _
      rw [← HLN.out]
      simp [stepB, hwhat]
    · exact fun h => (HF1.out _ h).elim HNF.out (fun e => by have := HB0.out.2.2; omega)
    · exact set5_chg _ _ _ _ _ _ _

theorem machB_ok (B vv : Nat) : (machB B vv).Ok := by
  intro x F s LA lc w hg hI hs
  have hI2 : BInv B vv w x F := hI
  have hB : B ≤ w.heap.size := by have := hI2.lt vv hI2.2.1; omega
  have hl : x.length ≤ 9999 := hg.1
  have hg2 : goodB x s := hg
  obtain ⟨⟨_, _, D, _, _, hvec, _, _⟩, _, _⟩ := hI2
  rcases hg2.2 with ⟨h, hb⟩ | ⟨h, hb, h1, h2⟩ | ⟨h, h1, h2⟩ | h
  · rcases hb with hb | hb
    · exact queueB_00 B vv x F s LA lc w hB hl hI h hb
    · exact queueB_01 B vv x F s LA lc w hB hl hI h hb
  · have hi : s.index = (s.index.toNat : Nat) := by omega
    have hi2 : s.index.toNat < x.length := by omega
    rcases h with h | h <;> rcases hb with hb | hb
    · exact queueB_10 B vv x F s LA lc w hB hl hI h hb _ hi hi2
    · exact queueB_11 B vv x F s LA lc w hB hl hI h hb _ hi hi2
    · exact queueB_20 B vv x F s LA lc w hB hl hI h hb _ hi hi2
    · exact queueB_21 B vv x F s LA lc w hB hl hI h hb _ hi hi2
  · have hi : s.index = (s.index.toNat : Nat) := by omega
    have hi2 : s.index.toNat < x.length := by omega
    rcases h with h | h
    · exact queueB_3 B vv x F s LA lc w hB hl hI h _ hi hi2
    · rcases hvec.bit hi2 with hb | hb
      · exact queueB_40 B vv x F s LA lc w hB hl hI h _ hi hi2 hb
      · exact queueB_41 B vv x F s LA lc w hB hl hI h _ hi hi2 hb
  · exact queueB_5 B vv x F s LA lc w hB hl hI h
end Go.Proofs.Ytammpllfmbmdmaa
