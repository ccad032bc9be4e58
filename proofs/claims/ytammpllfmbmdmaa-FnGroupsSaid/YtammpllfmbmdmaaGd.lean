/- The closure of impl.Queue for the stack of groups (kind 3) as a machine. Printed by gen_gd.py. -/
import Derived.Test.YtammpllfmbmdmaaGrp2
import Derived.Test.YtammpllfmbmdmaaSd
namespace Go.Proofs.Ytammpllfmbmdmaa
open Go.RowKit

/-- A step over a stack of groups; none: it panics. -/
def specG (L : List (List Int)) (s : StepD) : List (List Int) × Option AnsD :=
  if s.what = 0 then (match L.getLast? with
    | some l => (L.dropLast ++ [l ++ [s.n]], some zeroAns)
    | none => (L, none))
  else if s.what = 1 then (match L.getLast? with
    | some l => if l = [] then (L, none) else (L.dropLast ++ [l.dropLast], some zeroAns)
    | none => (L, none))
  else if s.what = 2 then (L, some zeroAns)
  else if s.what = 3 then (L, some ⟨L.length, false, [], false⟩)
  else if s.what = 4 then (L ++ [s.list], some zeroAns)
  else if s.what = 5 then (L.dropLast, L.getLast?.map fun l => ⟨0, false, l, false⟩)
  else (L, L.getLast?.map fun l => ⟨0, false, l, false⟩)

/-- The state of the stack of groups in memory. -/
def GInv (B kb gv : Nat) (w : World) (L : List (List Int)) (F : Nat → Prop) : Prop :=
  Blk w kb 3 #[.int .i64 3] ∧ (∃ v us, Grp w B gv v us L ∧ (∀ g, v.ownBlock = some g → F g) ∧ (∀ u ∈ us, ∀ g, u.ownBlock = some g → F g ∧ g ≠ kb)) ∧ F kb ∧ F gv ∧ ∀ i, F i → B ≤ i ∧ i < w.heap.size

def goodG (L : List (List Int)) (s : StepD) : Prop := 0 ≤ s.what ∧ s.what ≤ 6 ∧ L.length ≤ 549755813887 ∧ (∀ l ∈ L, l.length ≤ 549755813887) ∧ s.list.length ≤ 549755813887

/-- The machine of a stack of groups. -/
def mach3 (B kb lv fv sv gv : Nat) : Mach (List (List Int)) where
  B := B
  id := 27
  caps := #[.pointer (some ⟨kb, 0, none⟩), .pointer (some ⟨lv, 0, none⟩), .pointer (some ⟨fv, 0, none⟩), .pointer (some ⟨sv, 0, none⟩), .pointer (some ⟨gv, 0, none⟩)]
  enters := Try.call27
  Inv := GInv B kb gv
  stp := specG
  good := goodG
  keep := fun {w w' x F S} h hc hd => by
    obtain ⟨h1, ⟨v, us, h2, h3, h4⟩, h5, h6, h7⟩ := h
    exact ⟨h1.chg hc (hd _ h5), ⟨v, us, h2.chg hc (hd _ h6) (fun g hg => hd _ (h3 g hg)) (fun u hu g hg => hd _ (h4 u hu g hg).1), h3, h4⟩, h5, h6, fun i hi => ⟨(h7 i hi).1, Nat.lt_of_lt_of_le (h7 i hi).2 hc.size⟩⟩
  lt := fun {w x F} h => h.2.2.2.2

theorem GInv.kb {B kb gv : Nat} {w : World} {L : List (List Int)} {F : Nat → Prop} (h : GInv B kb gv w L F) : Blk w kb 3 #[.int .i64 3] := h.1
theorem GInv.lt {B kb gv : Nat} {w : World} {L : List (List Int)} {F : Nat → Prop} (h : GInv B kb gv w L F) : ∀ i, F i → B ≤ i ∧ i < w.heap.size := h.2.2.2.2

/-- Behind a method that changes the stack. -/
theorem GInv.after {B kb gv : Nat} {w w1 : World} {L L' : List (List Int)} {F : Nat → Prop} {v : Value} {us : List Value} (h : GInv B kb gv w L F) (hs : Grp w B gv v us L) (hv : ∀ g, v.ownBlock = some g → F g) (hus : ∀ u ∈ us, ∀ g, u.ownBlock = some g → F g ∧ g ≠ kb) (ht : GrpTo B gv v us w w1 L') :
    ∃ F1, GInv B kb gv w1 L' F1 ∧ (∀ i, F1 i → F i ∨ w.heap.size ≤ i) ∧ Chg F w w1 := by
  obtain ⟨h1, _, h5, h6, h7⟩ := h
  obtain ⟨⟨v', us', hg, hv', hus'⟩, hc⟩ := ht
  have hcF : Chg F w w1 := hc.mono (fun i _ e => e.elim (fun e => e ▸ h6) (fun e => e.elim (hv i) (fun ⟨u, hu, e⟩ => (hus u hu i e).1)))
  have hkb : Blk w1 kb 3 #[.int .i64 3] := h1.chg hc (fun e => by
    rcases e with e | e | ⟨u, hu, e⟩
    · exact hs.rv.1.ne_ h1 (by decide) e.symm
    · obtain ⟨cs, hcs⟩ := own_blk hs.rv.2 e
      exact hcs.ne_ h1 (by decide) rfl
    · exact (hus u hu kb e).2 rfl)
  have hkl := h1.lt
  refine ⟨fun i => F i ∨ v'.ownBlock = some i ∨ ∃ u ∈ us', u.ownBlock = some i, ⟨hkb, ⟨v', us', hg, fun g hg => Or.inr (Or.inl hg), fun u hu g hgu => ⟨Or.inr (Or.inr ⟨u, hu, hgu⟩), ?_⟩⟩, Or.inl h5, Or.inl h6, fun i hi => ?_⟩, fun i hi => ?_, hcF⟩
  · rcases hus' u hu g hgu with ⟨u0, hu0, e⟩ | e
    · exact (hus u0 hu0 g e).2
    · omega
  · rcases hi with hi | hi | ⟨u, hu, hi⟩
    · exact ⟨(h7 i hi).1, Nat.lt_of_lt_of_le (h7 i hi).2 hc.size⟩
    · exact hg.rv.2.lt i hi
    · obtain ⟨k, hk⟩ := List.getElem?_of_mem hu
      obtain ⟨lx, hlx⟩ : ∃ lx, L'[k]? = some lx := ⟨_, List.getElem?_eq_getElem (by have := (List.getElem?_eq_some_iff.1 hk).1; have := hg.len; omega)⟩
      exact (hg.each k u lx hk hlx).lt i hi
  · rcases hi with hi | hi | ⟨u, hu, hi⟩
    · exact Or.inl hi
    · exact (hv' i hi).imp (hv i) id
    · exact (hus' u hu i hi).imp (fun ⟨u0, hu0, e⟩ => (hus u0 hu0 i e).1) id

theorem own_free {w : World} {base : Nat} {A : Option Addr} {n c : Nat} {xs : List Int} {F : Nat → Prop} (h : w.ownsRow base 3 1 (.slice A n c) n (ints xs)) (hF : ∀ i, F i → i < base) : SliceIs w (Free w F) A n c xs := by
  have h0 := SliceIs.of_own h
  refine ⟨h0.len, h0.cap, h0.max, ⟨h0.reads.1, fun hn => ?_⟩, h0.nil_⟩
  obtain ⟨ad, rfl, hk, hlt, hcs⟩ := h0.reads.2 hn
  obtain ⟨A', c', e, hr⟩ := own_reads h
  injection e with e1 _ e2
  subst e1; subst e2
  obtain ⟨ad', e3, hb, _, _⟩ := hr.2 hn
  injection e3 with e3
  subst e3
  exact ⟨ad, rfl, ⟨fun hf => by have := hF _ hf; omega, hk⟩, hlt, hcs⟩

set_option maxHeartbeats 1000000 in
set_option maxRecDepth 100000 in
theorem queue3_0p (B kb lv fv sv gv : Nat) (L : List (List Int)) (l : List Int) (F : Nat → Prop) (s : StepD) (A : Option Addr) (c : Nat) (w : World) (_hB : B ≤ w.heap.size) (_hg : goodG (L ++ [l]) s) (h : GInv B kb gv w (L ++ [l]) F) (hwhat : s.what = 0) :
    Calls Try.prog 27 #[.agg (s.cells (.slice A s.list.length c)), .pointer (some ⟨kb, 0, none⟩), .pointer (some ⟨lv, 0, none⟩), .pointer (some ⟨fv, 0, none⟩), .pointer (some ⟨sv, 0, none⟩), .pointer (some ⟨gv, 0, none⟩)] w
      (Stepped (mach3 B kb lv fv sv gv) (L ++ [l]) F s (fun _ e _ => ∃ u pv, e = .panicked [{ v := .iface u pv, recovered := false }]) w) := by
  have HI := hide h
  have hk := h.kb
  have hc1 : w.cell? ⟨kb, 0, none⟩ = some (.int .i64 3) := by rw [hk.cell]; rfl
  have hl1 := hk.lt
  have hst0 := start_facts w (s.cells (.slice A s.list.length c)) #[.int .i64 0, .bool false, .slice none 0 0, .bool false]
  have HI0 : Hid (GInv B kb gv ((w.alloc (.cells (s.cells (.slice A s.list.length c)) 29)).alloc (.cells #[.int .i64 0, .bool false, .slice none 0 0, .bool false] 46)) (L ++ [l]) F) := (mach3 B kb lv fv sv gv).keep (x := (L ++ [l])) HI.out (Chg.ofBelow hst0.1 (fun _ => False)) (fun _ _ h => h)
  have HNF : Hid (¬ F (w.heap.size + 1)) := fun h => by have := (HI.out.lt _ h).2; omega
  have HB0 := hide hst0
  have HGD := hide _hg
  clear h hk hst0 _hg
  unfold StepD.cells at *
  rw [hwhat] at HB0 HI0 ⊢
  go_enter Try.func27, Try.ntmps27
  go_wp2_with fail
  generalize (w.alloc (.cells #[.int .i64 0, .int .i64 s.which, .int .i64 s.index, .int .i64 s.bit, .int .i64 s.n, .int .i64 s.key, .int .i64 s.value, .slice A s.list.length c] 29)).alloc (.cells #[.int .i64 0, .bool false, .slice none 0 0, .bool false] 46) = W at *
  obtain ⟨_, ⟨v, us, hgrp, hvF, huF⟩, _⟩ := HI0.out
  have HGRP := hide hgrp
  have HVF := hide hvF
  have HUF := hide huF
  clear hgrp hvF huF
  refine (grp_push B gv v us W L l s.n HGRP.out (by have := HGD.out.2.2.1; simp at this; omega) (by have := HGD.out.2.2.2.1 l (by simp); omega) (by have := HB0.out.2.2; omega)).mono ?_
  rintro e w1 ⟨rfl, hto⟩
  obtain ⟨F1, hi1, hf1, hcf⟩ := HI0.out.after HGRP.out HVF.out HUF.out hto
  have HI1 := hide hi1
  have HF1 := hide hf1
  have HCF := hide hcf
  clear hto hi1 hf1 hcf
  have hz := HB0.out.2.1.chg HCF.out HNF.out
  have k0 : w1.cell? ⟨w.heap.size + 1, 0, none⟩ = some (.int .i64 0) := by rw [hz.cell]; rfl
  have k1 : w1.cell? ⟨w.heap.size + 1, 1, none⟩ = some (.bool false) := by rw [hz.cell]; rfl
  have k2 : w1.cell? ⟨w.heap.size + 1, 2, none⟩ = some (.slice none 0 0) := by rw [hz.cell]; rfl
  have k3 : w1.cell? ⟨w.heap.size + 1, 3, none⟩ = some (.bool false) := by rw [hz.cell]; rfl
  have f0 := hz.frozen 0
  have f1 := hz.frozen 1
  have f2 := hz.frozen 2
  have f3 := hz.frozen 3
  have HZ := hide hz
  clear hz
  go_wp2
  refine bodyPost_ret (v := .agg ((zeroAns : AnsD).cells (.slice none 0 0))) ?_ rfl ?_
  · simp [results, Try.f27, go_sem, k0, k1, k2, k3, AnsD.cells, zeroAns]
  · refine done_ok (mach3 B kb lv fv sv gv) (x' := L ++ [l ++ [s.n]]) (a := zeroAns) (r := w.heap.size + 1) (w1 := w1) (F1 := F1) (c := 0) ?_ rfl HI1.out (fun i hi => (HF1.out i hi).imp id (fun e => by have := HB0.out.2.2; omega)) ?_ (Nat.le_succ _) ((Chg.ofBelow HB0.out.1 F).trans HCF.out (fun _ _ h => h)) ?_ SliceIs.none_
    · show specG (L ++ [l]) s = _
      simp [specG, hwhat]
    · exact fun h => (HF1.out _ h).elim HNF.out (fun e => by have := HB0.out.2.2; omega)
    · first | exact Chg.refl _ _ | exact set4_chg _ _ _ _ _ _

set_option maxHeartbeats 1000000 in
set_option maxRecDepth 100000 in
theorem queue3_0n (B kb lv fv sv gv : Nat) (F : Nat → Prop) (s : StepD) (A : Option Addr) (c : Nat) (w : World) (_hB : B ≤ w.heap.size) (_hg : goodG ([]) s) (h : GInv B kb gv w ([]) F) (hwhat : s.what = 0) :
    Calls Try.prog 27 #[.agg (s.cells (.slice A s.list.length c)), .pointer (some ⟨kb, 0, none⟩), .pointer (some ⟨lv, 0, none⟩), .pointer (some ⟨fv, 0, none⟩), .pointer (some ⟨sv, 0, none⟩), .pointer (some ⟨gv, 0, none⟩)] w
      (Stepped (mach3 B kb lv fv sv gv) ([]) F s (fun _ e _ => ∃ u pv, e = .panicked [{ v := .iface u pv, recovered := false }]) w) := by
  have HI := hide h
  have hk := h.kb
  have hc1 : w.cell? ⟨kb, 0, none⟩ = some (.int .i64 3) := by rw [hk.cell]; rfl
  have hl1 := hk.lt
  have hst0 := start_facts w (s.cells (.slice A s.list.length c)) #[.int .i64 0, .bool false, .slice none 0 0, .bool false]
  have HI0 : Hid (GInv B kb gv ((w.alloc (.cells (s.cells (.slice A s.list.length c)) 29)).alloc (.cells #[.int .i64 0, .bool false, .slice none 0 0, .bool false] 46)) ([]) F) := (mach3 B kb lv fv sv gv).keep (x := ([])) HI.out (Chg.ofBelow hst0.1 (fun _ => False)) (fun _ _ h => h)
  have HNF : Hid (¬ F (w.heap.size + 1)) := fun h => by have := (HI.out.lt _ h).2; omega
  have HB0 := hide hst0
  have HGD := hide _hg
  clear h hk hst0 _hg
  unfold StepD.cells at *
  rw [hwhat] at HB0 HI0 ⊢
  go_enter Try.func27, Try.ntmps27
  go_wp2_with fail
  generalize (w.alloc (.cells #[.int .i64 0, .int .i64 s.which, .int .i64 s.index, .int .i64 s.bit, .int .i64 s.n, .int .i64 s.key, .int .i64 s.value, .slice A s.list.length c] 29)).alloc (.cells #[.int .i64 0, .bool false, .slice none 0 0, .bool false] 46) = W at *
  obtain ⟨_, ⟨v, us, hgrp, hvF, huF⟩, _⟩ := HI0.out
  have HGRP := hide hgrp
  have HVF := hide hvF
  have HUF := hide huF
  clear hgrp hvF huF
  refine (grp_push_none B gv v us W s.n [] rfl HGRP.out).mono ?_
  rintro e w1 ⟨⟨u, pv, rfl⟩, hcs⟩
  go_wp2
  refine ⟨rfl, Or.inr ⟨?_, ((Chg.ofBelow HB0.out.1 F).trans (hcs.mono (fun _ _ h => h.elim)) (fun _ _ h => h)), _, _, rfl⟩⟩
  show (specG ([]) s).2 = _
  simp [specG, hwhat]

set_option maxHeartbeats 1000000 in
set_option maxRecDepth 100000 in
theorem queue3_1p (B kb lv fv sv gv : Nat) (L : List (List Int)) (l : List Int) (x : Int) (F : Nat → Prop) (s : StepD) (A : Option Addr) (c : Nat) (w : World) (_hB : B ≤ w.heap.size) (_hg : goodG (L ++ [l ++ [x]]) s) (h : GInv B kb gv w (L ++ [l ++ [x]]) F) (hwhat : s.what = 1) :
    Calls Try.prog 27 #[.agg (s.cells (.slice A s.list.length c)), .pointer (some ⟨kb, 0, none⟩), .pointer (some ⟨lv, 0, none⟩), .pointer (some ⟨fv, 0, none⟩), .pointer (some ⟨sv, 0, none⟩), .pointer (some ⟨gv, 0, none⟩)] w
      (Stepped (mach3 B kb lv fv sv gv) (L ++ [l ++ [x]]) F s (fun _ e _ => ∃ u pv, e = .panicked [{ v := .iface u pv, recovered := false }]) w) := by
  have HI := hide h
  have hk := h.kb
  have hc1 : w.cell? ⟨kb, 0, none⟩ = some (.int .i64 3) := by rw [hk.cell]; rfl
  have hl1 := hk.lt
  have hst0 := start_facts w (s.cells (.slice A s.list.length c)) #[.int .i64 0, .bool false, .slice none 0 0, .bool false]
  have HI0 : Hid (GInv B kb gv ((w.alloc (.cells (s.cells (.slice A s.list.length c)) 29)).alloc (.cells #[.int .i64 0, .bool false, .slice none 0 0, .bool false] 46)) (L ++ [l ++ [x]]) F) := (mach3 B kb lv fv sv gv).keep (x := (L ++ [l ++ [x]])) HI.out (Chg.ofBelow hst0.1 (fun _ => False)) (fun _ _ h => h)
  have HNF : Hid (¬ F (w.heap.size + 1)) := fun h => by have := (HI.out.lt _ h).2; omega
  have HB0 := hide hst0
  have HGD := hide _hg
  clear h hk hst0 _hg
  unfold StepD.cells at *
  rw [hwhat] at HB0 HI0 ⊢
  go_enter Try.func27, Try.ntmps27
  go_wp2_with fail
  generalize (w.alloc (.cells #[.int .i64 1, .int .i64 s.which, .int .i64 s.index, .int .i64 s.bit, .int .i64 s.n, .int .i64 s.key, .int .i64 s.value, .slice A s.list.length c] 29)).alloc (.cells #[.int .i64 0, .bool false, .slice none 0 0, .bool false] 46) = W at *
  obtain ⟨_, ⟨v, us, hgrp, hvF, huF⟩, _⟩ := HI0.out
  have HGRP := hide hgrp
  have HVF := hide hvF
  have HUF := hide huF
  clear hgrp hvF huF
  refine (grp_pop B gv v us W L l x HGRP.out (by have := HGD.out.2.2.1; simp at this; omega) (by have := HGD.out.2.2.2.1 (l ++ [x]) (by simp); simp at this; omega)).mono ?_
  rintro e w1 ⟨rfl, hto⟩
  obtain ⟨F1, hi1, hf1, hcf⟩ := HI0.out.after HGRP.out HVF.out HUF.out hto
  have HI1 := hide hi1
  have HF1 := hide hf1
  have HCF := hide hcf
  clear hto hi1 hf1 hcf
  have hz := HB0.out.2.1.chg HCF.out HNF.out
  have k0 : w1.cell? ⟨w.heap.size + 1, 0, none⟩ = some (.int .i64 0) := by rw [hz.cell]; rfl
  have k1 : w1.cell? ⟨w.heap.size + 1, 1, none⟩ = some (.bool false) := by rw [hz.cell]; rfl
  have k2 : w1.cell? ⟨w.heap.size + 1, 2, none⟩ = some (.slice none 0 0) := by rw [hz.cell]; rfl
  have k3 : w1.cell? ⟨w.heap.size + 1, 3, none⟩ = some (.bool false) := by rw [hz.cell]; rfl
  have f0 := hz.frozen 0
  have f1 := hz.frozen 1
  have f2 := hz.frozen 2
  have f3 := hz.frozen 3
  have HZ := hide hz
  clear hz
  go_wp2
  refine bodyPost_ret (v := .agg ((zeroAns : AnsD).cells (.slice none 0 0))) ?_ rfl ?_
  · simp [results, Try.f27, go_sem, k0, k1, k2, k3, AnsD.cells, zeroAns]
  · refine done_ok (mach3 B kb lv fv sv gv) (x' := L ++ [l]) (a := zeroAns) (r := w.heap.size + 1) (w1 := w1) (F1 := F1) (c := 0) ?_ rfl HI1.out (fun i hi => (HF1.out i hi).imp id (fun e => by have := HB0.out.2.2; omega)) ?_ (Nat.le_succ _) ((Chg.ofBelow HB0.out.1 F).trans HCF.out (fun _ _ h => h)) ?_ SliceIs.none_
    · show specG (L ++ [l ++ [x]]) s = _
      simp [specG, hwhat]
    · exact fun h => (HF1.out _ h).elim HNF.out (fun e => by have := HB0.out.2.2; omega)
    · first | exact Chg.refl _ _ | exact set4_chg _ _ _ _ _ _

set_option maxHeartbeats 1000000 in
set_option maxRecDepth 100000 in
theorem queue3_1e (B kb lv fv sv gv : Nat) (L : List (List Int)) (F : Nat → Prop) (s : StepD) (A : Option Addr) (c : Nat) (w : World) (_hB : B ≤ w.heap.size) (_hg : goodG (L ++ [[]]) s) (h : GInv B kb gv w (L ++ [[]]) F) (hwhat : s.what = 1) :
    Calls Try.prog 27 #[.agg (s.cells (.slice A s.list.length c)), .pointer (some ⟨kb, 0, none⟩), .pointer (some ⟨lv, 0, none⟩), .pointer (some ⟨fv, 0, none⟩), .pointer (some ⟨sv, 0, none⟩), .pointer (some ⟨gv, 0, none⟩)] w
      (Stepped (mach3 B kb lv fv sv gv) (L ++ [[]]) F s (fun _ e _ => ∃ u pv, e = .panicked [{ v := .iface u pv, recovered := false }]) w) := by
  have HI := hide h
  have hk := h.kb
  have hc1 : w.cell? ⟨kb, 0, none⟩ = some (.int .i64 3) := by rw [hk.cell]; rfl
  have hl1 := hk.lt
  have hst0 := start_facts w (s.cells (.slice A s.list.length c)) #[.int .i64 0, .bool false, .slice none 0 0, .bool false]
  have HI0 : Hid (GInv B kb gv ((w.alloc (.cells (s.cells (.slice A s.list.length c)) 29)).alloc (.cells #[.int .i64 0, .bool false, .slice none 0 0, .bool false] 46)) (L ++ [[]]) F) := (mach3 B kb lv fv sv gv).keep (x := (L ++ [[]])) HI.out (Chg.ofBelow hst0.1 (fun _ => False)) (fun _ _ h => h)
  have HNF : Hid (¬ F (w.heap.size + 1)) := fun h => by have := (HI.out.lt _ h).2; omega
  have HB0 := hide hst0
  have HGD := hide _hg
  clear h hk hst0 _hg
  unfold StepD.cells at *
  rw [hwhat] at HB0 HI0 ⊢
  go_enter Try.func27, Try.ntmps27
  go_wp2_with fail
  generalize (w.alloc (.cells #[.int .i64 1, .int .i64 s.which, .int .i64 s.index, .int .i64 s.bit, .int .i64 s.n, .int .i64 s.key, .int .i64 s.value, .slice A s.list.length c] 29)).alloc (.cells #[.int .i64 0, .bool false, .slice none 0 0, .bool false] 46) = W at *
  obtain ⟨_, ⟨v, us, hgrp, hvF, huF⟩, _⟩ := HI0.out
  have HGRP := hide hgrp
  have HVF := hide hvF
  have HUF := hide huF
  clear hgrp hvF huF
  refine (grp_pop_empty B gv v us W L HGRP.out (by have := HGD.out.2.2.1; simp at this; omega)).mono ?_
  rintro e w1 ⟨⟨u, pv, rfl⟩, hcs⟩
  go_wp2
  refine ⟨rfl, Or.inr ⟨?_, ((Chg.ofBelow HB0.out.1 F).trans (hcs.mono (fun _ _ h => h.elim)) (fun _ _ h => h)), _, _, rfl⟩⟩
  show (specG (L ++ [[]]) s).2 = _
  simp [specG, hwhat]

set_option maxHeartbeats 1000000 in
set_option maxRecDepth 100000 in
theorem queue3_1n (B kb lv fv sv gv : Nat) (F : Nat → Prop) (s : StepD) (A : Option Addr) (c : Nat) (w : World) (_hB : B ≤ w.heap.size) (_hg : goodG ([]) s) (h : GInv B kb gv w ([]) F) (hwhat : s.what = 1) :
    Calls Try.prog 27 #[.agg (s.cells (.slice A s.list.length c)), .pointer (some ⟨kb, 0, none⟩), .pointer (some ⟨lv, 0, none⟩), .pointer (some ⟨fv, 0, none⟩), .pointer (some ⟨sv, 0, none⟩), .pointer (some ⟨gv, 0, none⟩)] w
      (Stepped (mach3 B kb lv fv sv gv) ([]) F s (fun _ e _ => ∃ u pv, e = .panicked [{ v := .iface u pv, recovered := false }]) w) := by
  have HI := hide h
  have hk := h.kb
  have hc1 : w.cell? ⟨kb, 0, none⟩ = some (.int .i64 3) := by rw [hk.cell]; rfl
  have hl1 := hk.lt
  have hst0 := start_facts w (s.cells (.slice A s.list.length c)) #[.int .i64 0, .bool false, .slice none 0 0, .bool false]
  have HI0 : Hid (GInv B kb gv ((w.alloc (.cells (s.cells (.slice A s.list.length c)) 29)).alloc (.cells #[.int .i64 0, .bool false, .slice none 0 0, .bool false] 46)) ([]) F) := (mach3 B kb lv fv sv gv).keep (x := ([])) HI.out (Chg.ofBelow hst0.1 (fun _ => False)) (fun _ _ h => h)
  have HNF : Hid (¬ F (w.heap.size + 1)) := fun h => by have := (HI.out.lt _ h).2; omega
  have HB0 := hide hst0
  have HGD := hide _hg
  clear h hk hst0 _hg
  unfold StepD.cells at *
  rw [hwhat] at HB0 HI0 ⊢
  go_enter Try.func27, Try.ntmps27
  go_wp2_with fail
  generalize (w.alloc (.cells #[.int .i64 1, .int .i64 s.which, .int .i64 s.index, .int .i64 s.bit, .int .i64 s.n, .int .i64 s.key, .int .i64 s.value, .slice A s.list.length c] 29)).alloc (.cells #[.int .i64 0, .bool false, .slice none 0 0, .bool false] 46) = W at *
  obtain ⟨_, ⟨v, us, hgrp, hvF, huF⟩, _⟩ := HI0.out
  have HGRP := hide hgrp
  have HVF := hide hvF
  have HUF := hide huF
  clear hgrp hvF huF
  refine (grp_pop_none B gv v us W [] rfl HGRP.out).mono ?_
  rintro e w1 ⟨⟨u, pv, rfl⟩, hcs⟩
  go_wp2
  refine ⟨rfl, Or.inr ⟨?_, ((Chg.ofBelow HB0.out.1 F).trans (hcs.mono (fun _ _ h => h.elim)) (fun _ _ h => h)), _, _, rfl⟩⟩
  show (specG ([]) s).2 = _
  simp [specG, hwhat]

set_option maxHeartbeats 1000000 in
set_option maxRecDepth 100000 in
theorem queue3_2 (B kb lv fv sv gv : Nat) (L : List (List Int)) (F : Nat → Prop) (s : StepD) (A : Option Addr) (c : Nat) (w : World) (_hB : B ≤ w.heap.size) (_hg : goodG (L) s) (h : GInv B kb gv w (L) F) (hwhat : s.what = 2) :
    Calls Try.prog 27 #[.agg (s.cells (.slice A s.list.length c)), .pointer (some ⟨kb, 0, none⟩), .pointer (some ⟨lv, 0, none⟩), .pointer (some ⟨fv, 0, none⟩), .pointer (some ⟨sv, 0, none⟩), .pointer (some ⟨gv, 0, none⟩)] w
      (Stepped (mach3 B kb lv fv sv gv) (L) F s (fun _ e _ => ∃ u pv, e = .panicked [{ v := .iface u pv, recovered := false }]) w) := by
  have HI := hide h
  have hk := h.kb
  have hc1 : w.cell? ⟨kb, 0, none⟩ = some (.int .i64 3) := by rw [hk.cell]; rfl
  have hl1 := hk.lt
  have hst0 := start_facts w (s.cells (.slice A s.list.length c)) #[.int .i64 0, .bool false, .slice none 0 0, .bool false]
  have HI0 : Hid (GInv B kb gv ((w.alloc (.cells (s.cells (.slice A s.list.length c)) 29)).alloc (.cells #[.int .i64 0, .bool false, .slice none 0 0, .bool false] 46)) (L) F) := (mach3 B kb lv fv sv gv).keep (x := (L)) HI.out (Chg.ofBelow hst0.1 (fun _ => False)) (fun _ _ h => h)
  have HNF : Hid (¬ F (w.heap.size + 1)) := fun h => by have := (HI.out.lt _ h).2; omega
  have HB0 := hide hst0
  have HGD := hide _hg
  clear h hk hst0 _hg
  unfold StepD.cells at *
  rw [hwhat] at HB0 HI0 ⊢
  go_enter Try.func27, Try.ntmps27
  go_wp2
  refine bodyPost_ret (v := .agg ((zeroAns : AnsD).cells (.slice none 0 0))) ?_ rfl ?_
  · simp [results, Try.f27, go_sem, AnsD.cells, zeroAns]
  · refine done_ok (mach3 B kb lv fv sv gv) (x' := L) (a := zeroAns) (r := w.heap.size + 1) (F1 := F) (c := 0) ?_ rfl HI0.out (fun i hi => Or.inl hi) HNF.out (Nat.le_succ _) (Chg.ofBelow HB0.out.1 F) (Chg.refl _ _) SliceIs.none_
    show specG L s = _
    simp [specG, hwhat]

set_option maxHeartbeats 1000000 in
set_option maxRecDepth 100000 in
theorem queue3_3 (B kb lv fv sv gv : Nat) (L : List (List Int)) (F : Nat → Prop) (s : StepD) (A : Option Addr) (c : Nat) (w : World) (_hB : B ≤ w.heap.size) (_hg : goodG (L) s) (h : GInv B kb gv w (L) F) (hwhat : s.what = 3) :
    Calls Try.prog 27 #[.agg (s.cells (.slice A s.list.length c)), .pointer (some ⟨kb, 0, none⟩), .pointer (some ⟨lv, 0, none⟩), .pointer (some ⟨fv, 0, none⟩), .pointer (some ⟨sv, 0, none⟩), .pointer (some ⟨gv, 0, none⟩)] w
      (Stepped (mach3 B kb lv fv sv gv) (L) F s (fun _ e _ => ∃ u pv, e = .panicked [{ v := .iface u pv, recovered := false }]) w) := by
  have HI := hide h
  have hk := h.kb
  have hc1 : w.cell? ⟨kb, 0, none⟩ = some (.int .i64 3) := by rw [hk.cell]; rfl
  have hl1 := hk.lt
  have hst0 := start_facts w (s.cells (.slice A s.list.length c)) #[.int .i64 0, .bool false, .slice none 0 0, .bool false]
  have HI0 : Hid (GInv B kb gv ((w.alloc (.cells (s.cells (.slice A s.list.length c)) 29)).alloc (.cells #[.int .i64 0, .bool false, .slice none 0 0, .bool false] 46)) (L) F) := (mach3 B kb lv fv sv gv).keep (x := (L)) HI.out (Chg.ofBelow hst0.1 (fun _ => False)) (fun _ _ h => h)
  have HNF : Hid (¬ F (w.heap.size + 1)) := fun h => by have := (HI.out.lt _ h).2; omega
  have HB0 := hide hst0
  have HGD := hide _hg
  clear h hk hst0 _hg
  unfold StepD.cells at *
  rw [hwhat] at HB0 HI0 ⊢
  go_enter Try.func27, Try.ntmps27
  go_wp2_with fail
  generalize (w.alloc (.cells #[.int .i64 3, .int .i64 s.which, .int .i64 s.index, .int .i64 s.bit, .int .i64 s.n, .int .i64 s.key, .int .i64 s.value, .slice A s.list.length c] 29)).alloc (.cells #[.int .i64 0, .bool false, .slice none 0 0, .bool false] 46) = W at *
  obtain ⟨_, ⟨v, us, hgrp, hvF, huF⟩, _⟩ := HI0.out
  have HGRP := hide hgrp
  have HVF := hide hvF
  have HUF := hide huF
  clear hgrp hvF huF
  refine (grp_len B gv v us W L HGRP.out).mono ?_
  rintro e w1 ⟨rfl, hw1⟩
  have HCS : Hid (Chg (fun _ => False) W w1) := by rw [hw1]; exact (Chg.refl _ _)
  clear hw1
  obtain ⟨F1, hF1e⟩ : ∃ F1 : Nat → Prop, F1 = F := ⟨_, rfl⟩
  have HI1 : Hid (GInv B kb gv w1 (L) F1) := by rw [hF1e]; exact (mach3 B kb lv fv sv gv).keep (x := (L)) HI0.out HCS.out (fun _ _ h => h)
  have HF1 : Hid (∀ i, F1 i → F i ∨ W.heap.size ≤ i) := fun i hi => by rw [hF1e] at hi; exact Or.inl hi
  have HCF : Hid (Chg F W w1) := HCS.out.mono (fun _ _ h => h.elim)
  clear hF1e
  generalize hlen : (L.length : Int) = ln at *
  have HLN := hide hlen
  clear hlen
  have hz := HB0.out.2.1.chg HCF.out HNF.out
  have k0 : w1.cell? ⟨w.heap.size + 1, 0, none⟩ = some (.int .i64 0) := by rw [hz.cell]; rfl
  have k1 : w1.cell? ⟨w.heap.size + 1, 1, none⟩ = some (.bool false) := by rw [hz.cell]; rfl
  have k2 : w1.cell? ⟨w.heap.size + 1, 2, none⟩ = some (.slice none 0 0) := by rw [hz.cell]; rfl
  have k3 : w1.cell? ⟨w.heap.size + 1, 3, none⟩ = some (.bool false) := by rw [hz.cell]; rfl
  have f0 := hz.frozen 0
  have f1 := hz.frozen 1
  have f2 := hz.frozen 2
  have f3 := hz.frozen 3
  have HZ := hide hz
  clear hz
  go_wp2
  refine bodyPost_ret (v := .agg ((⟨ln, false, [], false⟩ : AnsD).cells (.slice none 0 0))) ?_ rfl ?_
  · simp [results, Try.f27, go_sem, k0, k1, k2, k3, AnsD.cells]
  · refine done_ok (mach3 B kb lv fv sv gv) (x' := L) (a := ⟨ln, false, [], false⟩) (r := w.heap.size + 1) (w1 := w1) (F1 := F1) (c := 0) ?_ rfl HI1.out (fun i hi => (HF1.out i hi).imp id (fun e => by have := HB0.out.2.2; omega)) ?_ (Nat.le_succ _) ((Chg.ofBelow HB0.out.1 F).trans HCF.out (fun _ _ h => h)) ?_ SliceIs.none_
    · show specG (L) s = _
      rw [← HLN.out]
      simp [specG, hwhat]
    · exact fun h => (HF1.out _ h).elim HNF.out (fun e => by have := HB0.out.2.2; omega)
    · exact set5_chg _ _ _ _ _ _ _

set_option maxHeartbeats 1000000 in
set_option maxRecDepth 100000 in
theorem queue3_4 (B kb lv fv sv gv : Nat) (L : List (List Int)) (F : Nat → Prop) (s : StepD) (A : Option Addr) (c : Nat) (w : World) (_hB : B ≤ w.heap.size) (_hg : goodG (L) s) (h : GInv B kb gv w (L) F) (hwhat : s.what = 4) (hsl0 : SliceIs w (fun i => i < w.heap.size) A s.list.length c s.list) :
    Calls Try.prog 27 #[.agg (s.cells (.slice A s.list.length c)), .pointer (some ⟨kb, 0, none⟩), .pointer (some ⟨lv, 0, none⟩), .pointer (some ⟨fv, 0, none⟩), .pointer (some ⟨sv, 0, none⟩), .pointer (some ⟨gv, 0, none⟩)] w
      (Stepped (mach3 B kb lv fv sv gv) (L) F s (fun _ e _ => ∃ u pv, e = .panicked [{ v := .iface u pv, recovered := false }]) w) := by
  have HI := hide h
  have hk := h.kb
  have hc1 : w.cell? ⟨kb, 0, none⟩ = some (.int .i64 3) := by rw [hk.cell]; rfl
  have hl1 := hk.lt
  have hst0 := start_facts w (s.cells (.slice A s.list.length c)) #[.int .i64 0, .bool false, .slice none 0 0, .bool false]
  have HI0 : Hid (GInv B kb gv ((w.alloc (.cells (s.cells (.slice A s.list.length c)) 29)).alloc (.cells #[.int .i64 0, .bool false, .slice none 0 0, .bool false] 46)) (L) F) := (mach3 B kb lv fv sv gv).keep (x := (L)) HI.out (Chg.ofBelow hst0.1 (fun _ => False)) (fun _ _ h => h)
  have HNF : Hid (¬ F (w.heap.size + 1)) := fun h => by have := (HI.out.lt _ h).2; omega
  have HB0 := hide hst0
  have HGD := hide _hg
  have HSL := hide (hsl0.below hst0.1)
  clear hsl0
  clear h hk hst0 _hg
  unfold StepD.cells at *
  rw [hwhat] at HB0 HI0 HSL ⊢
  go_enter Try.func27, Try.ntmps27
  go_wp2_with fail
  generalize (w.alloc (.cells #[.int .i64 4, .int .i64 s.which, .int .i64 s.index, .int .i64 s.bit, .int .i64 s.n, .int .i64 s.key, .int .i64 s.value, .slice A s.list.length c] 29)).alloc (.cells #[.int .i64 0, .bool false, .slice none 0 0, .bool false] 46) = W at *
  obtain ⟨_, ⟨v, us, hgrp, hvF, huF⟩, _⟩ := HI0.out
  have HGRP := hide hgrp
  have HVF := hide hvF
  have HUF := hide huF
  clear hgrp hvF huF
  refine (clone_any _ A s.list.length c s.list W HSL.out (by have := HGD.out.2.2.2.2; omega)).mono ?_
  rintro e w2 ⟨A', c', rfl, ho, hb2⟩
  have hfr : Hid (∀ g, (Value.slice A' s.list.length c').ownBlock = some g → W.heap.size ≤ g) := fun g hg => (ho.lt g hg).1
  have hgr2 : Grp w2 B gv v us L := HGRP.out.chg (Chg.ofBelow hb2 (fun _ => False)) (fun h => h) (fun _ _ h => h) (fun _ _ _ _ h => h)
  have HGR2 := hide hgr2
  have HB2 := hide hb2
  have HO := hide (own_base ho (base' := B) (by have := HB0.out.2.2; omega))
  have hs2 := hb2.size
  clear ho hb2 hgr2
  go_wp2_with fail
  refine (grp_pushGroup B gv v us w2 L s.list A' c' HGR2.out HO.out (fun x hx g hg e => by
    have h1 := ((HI0.out.lt g (HUF.out x hx g hg).1)).2
    have h2 := hfr.out g e
    omega) (by have := HGD.out.2.2.1; omega) (by have := HB0.out.2.2; omega)).mono ?_
  rintro e w1 ⟨rfl, v', hgr, hob, hcg⟩
  have hto : GrpTo B gv v us W w1 (L ++ [s.list]) := by
    refine ⟨⟨v', us ++ [.slice A' s.list.length c'], hgr, fun g hg => ?_, fun u hu g hg => ?_⟩, ?_⟩
    · rcases hob with e | e
      · rw [e] at hg; exact Or.inl hg
      · rw [e] at hg; injection hg with hg; exact Or.inr (by omega)
    · rcases List.mem_append.1 hu with hu | hu
      · exact Or.inl ⟨u, hu, hg⟩
      · rw [List.mem_singleton.1 hu] at hg
        exact Or.inr (hfr.out g hg)
    · exact (Chg.ofBelow HB2.out _).trans hcg (fun i _ e => e.imp id Or.inl)
  clear hgr hob hcg
  obtain ⟨F1, hi1, hf1, hcf⟩ := HI0.out.after HGRP.out HVF.out HUF.out hto
  have HI1 := hide hi1
  have HF1 := hide hf1
  have HCF := hide hcf
  clear hto hi1 hf1 hcf
  have hz := HB0.out.2.1.chg HCF.out HNF.out
  have k0 : w1.cell? ⟨w.heap.size + 1, 0, none⟩ = some (.int .i64 0) := by rw [hz.cell]; rfl
  have k1 : w1.cell? ⟨w.heap.size + 1, 1, none⟩ = some (.bool false) := by rw [hz.cell]; rfl
  have k2 : w1.cell? ⟨w.heap.size + 1, 2, none⟩ = some (.slice none 0 0) := by rw [hz.cell]; rfl
  have k3 : w1.cell? ⟨w.heap.size + 1, 3, none⟩ = some (.bool false) := by rw [hz.cell]; rfl
  have f0 := hz.frozen 0
  have f1 := hz.frozen 1
  have f2 := hz.frozen 2
  have f3 := hz.frozen 3
  have HZ := hide hz
  clear hz
  go_wp2
  refine bodyPost_ret (v := .agg ((zeroAns : AnsD).cells (.slice none 0 0))) ?_ rfl ?_
  · simp [results, Try.f27, go_sem, k0, k1, k2, k3, AnsD.cells, zeroAns]
  · refine done_ok (mach3 B kb lv fv sv gv) (x' := L ++ [s.list]) (a := zeroAns) (r := w.heap.size + 1) (w1 := w1) (F1 := F1) (c := 0) ?_ rfl HI1.out (fun i hi => (HF1.out i hi).imp id (fun e => by have := HB0.out.2.2; omega)) ?_ (Nat.le_succ _) ((Chg.ofBelow HB0.out.1 F).trans HCF.out (fun _ _ h => h)) ?_ SliceIs.none_
    · show specG (L) s = _
      simp [specG, hwhat]
    · exact fun h => (HF1.out _ h).elim HNF.out (fun e => by have := HB0.out.2.2; omega)
    · first | exact Chg.refl _ _ | exact set4_chg _ _ _ _ _ _

set_option maxHeartbeats 1000000 in
set_option maxRecDepth 100000 in
theorem queue3_5p (B kb lv fv sv gv : Nat) (L : List (List Int)) (l : List Int) (F : Nat → Prop) (s : StepD) (A : Option Addr) (c : Nat) (w : World) (_hB : B ≤ w.heap.size) (_hg : goodG (L ++ [l]) s) (h : GInv B kb gv w (L ++ [l]) F) (hwhat : s.what = 5) :
    Calls Try.prog 27 #[.agg (s.cells (.slice A s.list.length c)), .pointer (some ⟨kb, 0, none⟩), .pointer (some ⟨lv, 0, none⟩), .pointer (some ⟨fv, 0, none⟩), .pointer (some ⟨sv, 0, none⟩), .pointer (some ⟨gv, 0, none⟩)] w
      (Stepped (mach3 B kb lv fv sv gv) (L ++ [l]) F s (fun _ e _ => ∃ u pv, e = .panicked [{ v := .iface u pv, recovered := false }]) w) := by
  have HI := hide h
  have hk := h.kb
  have hc1 : w.cell? ⟨kb, 0, none⟩ = some (.int .i64 3) := by rw [hk.cell]; rfl
  have hl1 := hk.lt
  have hst0 := start_facts w (s.cells (.slice A s.list.length c)) #[.int .i64 0, .bool false, .slice none 0 0, .bool false]
  have HI0 : Hid (GInv B kb gv ((w.alloc (.cells (s.cells (.slice A s.list.length c)) 29)).alloc (.cells #[.int .i64 0, .bool false, .slice none 0 0, .bool false] 46)) (L ++ [l]) F) := (mach3 B kb lv fv sv gv).keep (x := (L ++ [l])) HI.out (Chg.ofBelow hst0.1 (fun _ => False)) (fun _ _ h => h)
  have HNF : Hid (¬ F (w.heap.size + 1)) := fun h => by have := (HI.out.lt _ h).2; omega
  have HB0 := hide hst0
  have HGD := hide _hg
  clear h hk hst0 _hg
  unfold StepD.cells at *
  rw [hwhat] at HB0 HI0 ⊢
  go_enter Try.func27, Try.ntmps27
  go_wp2_with fail
  generalize (w.alloc (.cells #[.int .i64 5, .int .i64 s.which, .int .i64 s.index, .int .i64 s.bit, .int .i64 s.n, .int .i64 s.key, .int .i64 s.value, .slice A s.list.length c] 29)).alloc (.cells #[.int .i64 0, .bool false, .slice none 0 0, .bool false] 46) = W at *
  obtain ⟨_, ⟨v, us, hgrp, hvF, huF⟩, _⟩ := HI0.out
  have HGRP := hide hgrp
  have HVF := hide hvF
  have HUF := hide huF
  clear hgrp hvF huF
  refine (grp_popGroup B gv v us W L l HGRP.out (by have := HGD.out.2.2.1; simp at this; omega)).mono ?_
  rintro e w0 ⟨⟨A', c', rfl, ho⟩, hto⟩
  obtain ⟨F1, hi1, hf1, hcf⟩ := HI0.out.after HGRP.out HVF.out HUF.out hto
  have HIa := hide hi1
  have HF1 := hide hf1
  have HCa := hide hcf
  have HO := hide ho
  clear hto hi1 hf1 hcf ho
  have HFW : Hid (∀ i, F1 i → i < w0.heap.size) := fun i hi => (HIa.out.lt i hi).2
  have hll : l.length ≤ 549755813887 := HGD.out.2.2.2.1 l (by simp)
  go_wp2_with fail
  refine (clone_any _ A' l.length c' l w0 (SliceIs.of_own HO.out) (by omega)).mono ?_
  rintro e w1 ⟨RA, rc, rfl, ho1, hb1⟩
  have HI1 : Hid (GInv B kb gv w1 (L) F1) := (mach3 B kb lv fv sv gv).keep (x := (L)) HIa.out (Chg.ofBelow hb1 (fun _ => False)) (fun _ _ h => h)
  have HCF : Hid (Chg F W w1) := HCa.out.trans (Chg.ofBelow hb1 F) (fun _ _ h => h)
  have HSR : Hid (SliceIs w1 (Free w1 F1) RA l.length rc l) := own_free ho1 HFW.out
  clear ho1 hb1
  obtain ⟨m, hm⟩ : ∃ m, m = l.length := ⟨_, rfl⟩
  rw [← hm] at HSR hll ⊢
  have HM := hide hm
  clear hm
  have hz := HB0.out.2.1.chg HCF.out HNF.out
  have k0 : w1.cell? ⟨w.heap.size + 1, 0, none⟩ = some (.int .i64 0) := by rw [hz.cell]; rfl
  have k1 : w1.cell? ⟨w.heap.size + 1, 1, none⟩ = some (.bool false) := by rw [hz.cell]; rfl
  have k2 : w1.cell? ⟨w.heap.size + 1, 2, none⟩ = some (.slice none 0 0) := by rw [hz.cell]; rfl
  have k3 : w1.cell? ⟨w.heap.size + 1, 3, none⟩ = some (.bool false) := by rw [hz.cell]; rfl
  have f0 := hz.frozen 0
  have f1 := hz.frozen 1
  have f2 := hz.frozen 2
  have f3 := hz.frozen 3
  have HZ := hide hz
  clear hz
  go_wp2
  have hc5 := set5_chg w1 (w.heap.size + 1) (.slice RA m rc) (.int .i64 0) (.bool false) (.slice RA m rc) (.bool false)
  refine bodyPost_ret (v := .agg ((⟨0, false, l, false⟩ : AnsD).cells (.slice RA m rc))) ?_ rfl ?_
  · simp [results, Try.f27, go_sem, k0, k1, k2, k3, AnsD.cells]
  · rw [HM.out]
    have hcx : Chg (· = w.heap.size + 1) w1 (((((w1.setCell ⟨w.heap.size + 1, 2, none⟩ (.slice RA m rc)).setCell ⟨w.heap.size + 1, 0, none⟩ (.int .i64 0)).setCell ⟨w.heap.size + 1, 1, none⟩ (.bool false)).setCell ⟨w.heap.size + 1, 2, none⟩ (.slice RA m rc)).setCell ⟨w.heap.size + 1, 3, none⟩ (.bool false)) := ((((((Chg.refl (· = w.heap.size + 1) w1).setCell (p := ⟨w.heap.size + 1, 2, none⟩) (fun _ => rfl) _).setCell (p := ⟨w.heap.size + 1, 0, none⟩) (fun _ => rfl) _).setCell (p := ⟨w.heap.size + 1, 1, none⟩) (fun _ => rfl) _).setCell (p := ⟨w.heap.size + 1, 2, none⟩) (fun _ => rfl) _).setCell (p := ⟨w.heap.size + 1, 3, none⟩) (fun _ => rfl) _)
    rw [HM.out] at hcx
    have hnf : ¬ F1 (w.heap.size + 1) := fun h => (HF1.out _ h).elim HNF.out (fun e => by have := HB0.out.2.2; omega)
    refine done_ok (mach3 B kb lv fv sv gv) (x' := L) (a := ⟨0, false, l, false⟩) (r := w.heap.size + 1) (w1 := w1) (F1 := F1) (c := rc) ?_ rfl HI1.out (fun i hi => (HF1.out i hi).imp id (fun e => by have := HB0.out.2.2; omega)) hnf (Nat.le_succ _) ((Chg.ofBelow HB0.out.1 F).trans HCF.out (fun _ _ h => h)) hcx ?_
    · show specG (L ++ [l]) s = _
      simp [specG, hwhat]
    · have h1 := HSR.out
      rw [HM.out] at h1
      refine (h1.chg hcx (fun i _ hk e => ?_)).more (fun i _ hk => ⟨hk.1, ?_⟩)
      · obtain ⟨_, cs, hcs⟩ := hk
        exact hcs.ne_ HZ.out (by decide) e
      · obtain ⟨cs, hcs⟩ := hk.2
        exact ⟨cs, hcs.chg hcx (fun e => hcs.ne_ HZ.out (by decide) e)⟩

set_option maxHeartbeats 1000000 in
set_option maxRecDepth 100000 in
theorem queue3_5n (B kb lv fv sv gv : Nat) (F : Nat → Prop) (s : StepD) (A : Option Addr) (c : Nat) (w : World) (_hB : B ≤ w.heap.size) (_hg : goodG ([]) s) (h : GInv B kb gv w ([]) F) (hwhat : s.what = 5) :
    Calls Try.prog 27 #[.agg (s.cells (.slice A s.list.length c)), .pointer (some ⟨kb, 0, none⟩), .pointer (some ⟨lv, 0, none⟩), .pointer (some ⟨fv, 0, none⟩), .pointer (some ⟨sv, 0, none⟩), .pointer (some ⟨gv, 0, none⟩)] w
      (Stepped (mach3 B kb lv fv sv gv) ([]) F s (fun _ e _ => ∃ u pv, e = .panicked [{ v := .iface u pv, recovered := false }]) w) := by
  have HI := hide h
  have hk := h.kb
  have hc1 : w.cell? ⟨kb, 0, none⟩ = some (.int .i64 3) := by rw [hk.cell]; rfl
  have hl1 := hk.lt
  have hst0 := start_facts w (s.cells (.slice A s.list.length c)) #[.int .i64 0, .bool false, .slice none 0 0, .bool false]
  have HI0 : Hid (GInv B kb gv ((w.alloc (.cells (s.cells (.slice A s.list.length c)) 29)).alloc (.cells #[.int .i64 0, .bool false, .slice none 0 0, .bool false] 46)) ([]) F) := (mach3 B kb lv fv sv gv).keep (x := ([])) HI.out (Chg.ofBelow hst0.1 (fun _ => False)) (fun _ _ h => h)
  have HNF : Hid (¬ F (w.heap.size + 1)) := fun h => by have := (HI.out.lt _ h).2; omega
  have HB0 := hide hst0
  have HGD := hide _hg
  clear h hk hst0 _hg
  unfold StepD.cells at *
  rw [hwhat] at HB0 HI0 ⊢
  go_enter Try.func27, Try.ntmps27
  go_wp2_with fail
  generalize (w.alloc (.cells #[.int .i64 5, .int .i64 s.which, .int .i64 s.index, .int .i64 s.bit, .int .i64 s.n, .int .i64 s.key, .int .i64 s.value, .slice A s.list.length c] 29)).alloc (.cells #[.int .i64 0, .bool false, .slice none 0 0, .bool false] 46) = W at *
  obtain ⟨_, ⟨v, us, hgrp, hvF, huF⟩, _⟩ := HI0.out
  have HGRP := hide hgrp
  have HVF := hide hvF
  have HUF := hide huF
  clear hgrp hvF huF
  refine (grp_popGroup_none B gv v us W [] rfl HGRP.out).mono ?_
  rintro e w1 ⟨⟨u, pv, rfl⟩, hcs⟩
  go_wp2
  refine ⟨rfl, Or.inr ⟨?_, ((Chg.ofBelow HB0.out.1 F).trans (hcs.mono (fun _ _ h => h.elim)) (fun _ _ h => h)), _, _, rfl⟩⟩
  show (specG ([]) s).2 = _
  simp [specG, hwhat]

set_option maxHeartbeats 1000000 in
set_option maxRecDepth 100000 in
theorem queue3_6p (B kb lv fv sv gv : Nat) (L : List (List Int)) (l : List Int) (F : Nat → Prop) (s : StepD) (A : Option Addr) (c : Nat) (w : World) (_hB : B ≤ w.heap.size) (_hg : goodG (L ++ [l]) s) (h : GInv B kb gv w (L ++ [l]) F) (hwhat : s.what = 6) :
    Calls Try.prog 27 #[.agg (s.cells (.slice A s.list.length c)), .pointer (some ⟨kb, 0, none⟩), .pointer (some ⟨lv, 0, none⟩), .pointer (some ⟨fv, 0, none⟩), .pointer (some ⟨sv, 0, none⟩), .pointer (some ⟨gv, 0, none⟩)] w
      (Stepped (mach3 B kb lv fv sv gv) (L ++ [l]) F s (fun _ e _ => ∃ u pv, e = .panicked [{ v := .iface u pv, recovered := false }]) w) := by
  have HI := hide h
  have hk := h.kb
  have hc1 : w.cell? ⟨kb, 0, none⟩ = some (.int .i64 3) := by rw [hk.cell]; rfl
  have hl1 := hk.lt
  have hst0 := start_facts w (s.cells (.slice A s.list.length c)) #[.int .i64 0, .bool false, .slice none 0 0, .bool false]
  have HI0 : Hid (GInv B kb gv ((w.alloc (.cells (s.cells (.slice A s.list.length c)) 29)).alloc (.cells #[.int .i64 0, .bool false, .slice none 0 0, .bool false] 46)) (L ++ [l]) F) := (mach3 B kb lv fv sv gv).keep (x := (L ++ [l])) HI.out (Chg.ofBelow hst0.1 (fun _ => False)) (fun _ _ h => h)
  have HNF : Hid (¬ F (w.heap.size + 1)) := fun h => by have := (HI.out.lt _ h).2; omega
  have HB0 := hide hst0
  have HGD := hide _hg
  clear h hk hst0 _hg
  unfold StepD.cells at *
  rw [hwhat] at HB0 HI0 ⊢
  go_enter Try.func27, Try.ntmps27
  go_wp2_with fail
  generalize (w.alloc (.cells #[.int .i64 6, .int .i64 s.which, .int .i64 s.index, .int .i64 s.bit, .int .i64 s.n, .int .i64 s.key, .int .i64 s.value, .slice A s.list.length c] 29)).alloc (.cells #[.int .i64 0, .bool false, .slice none 0 0, .bool false] 46) = W at *
  obtain ⟨_, ⟨v, us, hgrp, hvF, huF⟩, _⟩ := HI0.out
  have HGRP := hide hgrp
  have HVF := hide hvF
  have HUF := hide huF
  clear hgrp hvF huF
  refine (grp_peekGroup B gv v us W L l HGRP.out (by have := HGD.out.2.2.1; simp at this; omega)).mono ?_
  rintro e w0 ⟨⟨A', c', rfl, ho⟩, q, hw0⟩
  have HCS : Hid (Chg (fun _ => False) W w0) := by rw [hw0]; exact (Chg.refl _ _).drewN q
  have HO : Hid (w0.ownsRow B 3 1 (.slice A' l.length c') l.length (ints l)) := by rw [hw0]; exact ho
  clear hw0 ho
  obtain ⟨F1, hF1e⟩ : ∃ F1 : Nat → Prop, F1 = F := ⟨_, rfl⟩
  have HIa : Hid (GInv B kb gv w0 (L ++ [l]) F1) := by rw [hF1e]; exact (mach3 B kb lv fv sv gv).keep (x := (L ++ [l])) HI0.out HCS.out (fun _ _ h => h)
  have HF1 : Hid (∀ i, F1 i → F i ∨ W.heap.size ≤ i) := fun i hi => by rw [hF1e] at hi; exact Or.inl hi
  have HCa : Hid (Chg F W w0) := HCS.out.mono (fun _ _ h => h.elim)
  clear hF1e
  have HFW : Hid (∀ i, F1 i → i < w0.heap.size) := fun i hi => (HIa.out.lt i hi).2
  have hll : l.length ≤ 549755813887 := HGD.out.2.2.2.1 l (by simp)
  go_wp2_with fail
  refine (clone_any _ A' l.length c' l w0 (SliceIs.of_own HO.out) (by omega)).mono ?_
  rintro e w1 ⟨RA, rc, rfl, ho1, hb1⟩
  have HI1 : Hid (GInv B kb gv w1 (L ++ [l]) F1) := (mach3 B kb lv fv sv gv).keep (x := (L ++ [l])) HIa.out (Chg.ofBelow hb1 (fun _ => False)) (fun _ _ h => h)
  have HCF : Hid (Chg F W w1) := HCa.out.trans (Chg.ofBelow hb1 F) (fun _ _ h => h)
  have HSR : Hid (SliceIs w1 (Free w1 F1) RA l.length rc l) := own_free ho1 HFW.out
  clear ho1 hb1
  obtain ⟨m, hm⟩ : ∃ m, m = l.length := ⟨_, rfl⟩
  rw [← hm] at HSR hll ⊢
  have HM := hide hm
  clear hm
  have hz := HB0.out.2.1.chg HCF.out HNF.out
  have k0 : w1.cell? ⟨w.heap.size + 1, 0, none⟩ = some (.int .i64 0) := by rw [hz.cell]; rfl
  have k1 : w1.cell? ⟨w.heap.size + 1, 1, none⟩ = some (.bool false) := by rw [hz.cell]; rfl
  have k2 : w1.cell? ⟨w.heap.size + 1, 2, none⟩ = some (.slice none 0 0) := by rw [hz.cell]; rfl
  have k3 : w1.cell? ⟨w.heap.size + 1, 3, none⟩ = some (.bool false) := by rw [hz.cell]; rfl
  have f0 := hz.frozen 0
  have f1 := hz.frozen 1
  have f2 := hz.frozen 2
  have f3 := hz.frozen 3
  have HZ := hide hz
  clear hz
  go_wp2
  have hc5 := set5_chg w1 (w.heap.size + 1) (.slice RA m rc) (.int .i64 0) (.bool false) (.slice RA m rc) (.bool false)
  refine bodyPost_ret (v := .agg ((⟨0, false, l, false⟩ : AnsD).cells (.slice RA m rc))) ?_ rfl ?_
  · simp [results, Try.f27, go_sem, k0, k1, k2, k3, AnsD.cells]
  · rw [HM.out]
    have hcx : Chg (· = w.heap.size + 1) w1 (((((w1.setCell ⟨w.heap.size + 1, 2, none⟩ (.slice RA m rc)).setCell ⟨w.heap.size + 1, 0, none⟩ (.int .i64 0)).setCell ⟨w.heap.size + 1, 1, none⟩ (.bool false)).setCell ⟨w.heap.size + 1, 2, none⟩ (.slice RA m rc)).setCell ⟨w.heap.size + 1, 3, none⟩ (.bool false)) := ((((((Chg.refl (· = w.heap.size + 1) w1).setCell (p := ⟨w.heap.size + 1, 2, none⟩) (fun _ => rfl) _).setCell (p := ⟨w.heap.size + 1, 0, none⟩) (fun _ => rfl) _).setCell (p := ⟨w.heap.size + 1, 1, none⟩) (fun _ => rfl) _).setCell (p := ⟨w.heap.size + 1, 2, none⟩) (fun _ => rfl) _).setCell (p := ⟨w.heap.size + 1, 3, none⟩) (fun _ => rfl) _)
    rw [HM.out] at hcx
    have hnf : ¬ F1 (w.heap.size + 1) := fun h => (HF1.out _ h).elim HNF.out (fun e => by have := HB0.out.2.2; omega)
    refine done_ok (mach3 B kb lv fv sv gv) (x' := L ++ [l]) (a := ⟨0, false, l, false⟩) (r := w.heap.size + 1) (w1 := w1) (F1 := F1) (c := rc) ?_ rfl HI1.out (fun i hi => (HF1.out i hi).imp id (fun e => by have := HB0.out.2.2; omega)) hnf (Nat.le_succ _) ((Chg.ofBelow HB0.out.1 F).trans HCF.out (fun _ _ h => h)) hcx ?_
    · show specG (L ++ [l]) s = _
      simp [specG, hwhat]
    · have h1 := HSR.out
      rw [HM.out] at h1
      refine (h1.chg hcx (fun i _ hk e => ?_)).more (fun i _ hk => ⟨hk.1, ?_⟩)
      · obtain ⟨_, cs, hcs⟩ := hk
        exact hcs.ne_ HZ.out (by decide) e
      · obtain ⟨cs, hcs⟩ := hk.2
        exact ⟨cs, hcs.chg hcx (fun e => hcs.ne_ HZ.out (by decide) e)⟩

set_option maxHeartbeats 1000000 in
set_option maxRecDepth 100000 in
theorem queue3_6n (B kb lv fv sv gv : Nat) (F : Nat → Prop) (s : StepD) (A : Option Addr) (c : Nat) (w : World) (_hB : B ≤ w.heap.size) (_hg : goodG ([]) s) (h : GInv B kb gv w ([]) F) (hwhat : s.what = 6) :
    Calls Try.prog 27 #[.agg (s.cells (.slice A s.list.length c)), .pointer (some ⟨kb, 0, none⟩), .pointer (some ⟨lv, 0, none⟩), .pointer (some ⟨fv, 0, none⟩), .pointer (some ⟨sv, 0, none⟩), .pointer (some ⟨gv, 0, none⟩)] w
      (Stepped (mach3 B kb lv fv sv gv) ([]) F s (fun _ e _ => ∃ u pv, e = .panicked [{ v := .iface u pv, recovered := false }]) w) := by
  have HI := hide h
  have hk := h.kb
  have hc1 : w.cell? ⟨kb, 0, none⟩ = some (.int .i64 3) := by rw [hk.cell]; rfl
  have hl1 := hk.lt
  have hst0 := start_facts w (s.cells (.slice A s.list.length c)) #[.int .i64 0, .bool false, .slice none 0 0, .bool false]
  have HI0 : Hid (GInv B kb gv ((w.alloc (.cells (s.cells (.slice A s.list.length c)) 29)).alloc (.cells #[.int .i64 0, .bool false, .slice none 0 0, .bool false] 46)) ([]) F) := (mach3 B kb lv fv sv gv).keep (x := ([])) HI.out (Chg.ofBelow hst0.1 (fun _ => False)) (fun _ _ h => h)
  have HNF : Hid (¬ F (w.heap.size + 1)) := fun h => by have := (HI.out.lt _ h).2; omega
  have HB0 := hide hst0
  have HGD := hide _hg
  clear h hk hst0 _hg
  unfold StepD.cells at *
  rw [hwhat] at HB0 HI0 ⊢
  go_enter Try.func27, Try.ntmps27
  go_wp2_with fail
  generalize (w.alloc (.cells #[.int .i64 6, .int .i64 s.which, .int .i64 s.index, .int .i64 s.bit, .int .i64 s.n, .int .i64 s.key, .int .i64 s.value, .slice A s.list.length c] 29)).alloc (.cells #[.int .i64 0, .bool false, .slice none 0 0, .bool false] 46) = W at *
  obtain ⟨_, ⟨v, us, hgrp, hvF, huF⟩, _⟩ := HI0.out
  have HGRP := hide hgrp
  have HVF := hide hvF
  have HUF := hide huF
  clear hgrp hvF huF
  refine (grp_peekGroup_none B gv v us W [] rfl HGRP.out).mono ?_
  rintro e w1 ⟨⟨u, pv, rfl⟩, hcs⟩
  go_wp2
  refine ⟨rfl, Or.inr ⟨?_, ((Chg.ofBelow HB0.out.1 F).trans (hcs.mono (fun _ _ h => h.elim)) (fun _ _ h => h)), _, _, rfl⟩⟩
  show (specG ([]) s).2 = _
  simp [specG, hwhat]

theorem mach3_ok (B kb lv fv sv gv : Nat) : (mach3 B kb lv fv sv gv).Ok := by
  intro x F s LA lc w hg hI hs
  have hB : B ≤ w.heap.size := by have := (hI : GInv B kb gv w x F).lt kb hI.2.2.1; omega
  have hg2 : goodG x s := hg
  have : s.what = 0 ∨ s.what = 1 ∨ s.what = 2 ∨ s.what = 3 ∨ s.what = 4 ∨ s.what = 5 ∨ s.what = 6 := by have h0 := hg2.1; have h6 := hg2.2.1; omega
  rcases this with h | h | h | h | h | h | h
  · rcases List.eq_nil_or_concat x with rfl | ⟨y, z, rfl⟩
    · exact queue3_0n B kb lv fv sv gv F s LA lc w hB hg2 hI h
    · rw [List.concat_eq_append] at hI hg2 ⊢
      exact queue3_0p B kb lv fv sv gv y z F s LA lc w hB hg2 hI h
  · rcases List.eq_nil_or_concat x with rfl | ⟨y, z, rfl⟩
    · exact queue3_1n B kb lv fv sv gv F s LA lc w hB hg2 hI h
    · rw [List.concat_eq_append] at hI hg2 ⊢
      rcases List.eq_nil_or_concat z with rfl | ⟨z, t, rfl⟩
      · exact queue3_1e B kb lv fv sv gv y F s LA lc w hB hg2 hI h
      · rw [List.concat_eq_append] at hI hg2 ⊢
        exact queue3_1p B kb lv fv sv gv y z t F s LA lc w hB hg2 hI h
  · exact queue3_2 B kb lv fv sv gv x F s LA lc w hB hg2 hI h
  · exact queue3_3 B kb lv fv sv gv x F s LA lc w hB hg2 hI h
  · exact queue3_4 B kb lv fv sv gv x F s LA lc w hB hg2 hI h hs
  · rcases List.eq_nil_or_concat x with rfl | ⟨y, z, rfl⟩
    · exact queue3_5n B kb lv fv sv gv F s LA lc w hB hg2 hI h
    · rw [List.concat_eq_append] at hI hg2 ⊢
      exact queue3_5p B kb lv fv sv gv y z F s LA lc w hB hg2 hI h
  · rcases List.eq_nil_or_concat x with rfl | ⟨y, z, rfl⟩
    · exact queue3_6n B kb lv fv sv gv F s LA lc w hB hg2 hI h
    · rw [List.concat_eq_append] at hI hg2 ⊢
      exact queue3_6p B kb lv fv sv gv y z F s LA lc w hB hg2 hI h
end Go.Proofs.Ytammpllfmbmdmaa
