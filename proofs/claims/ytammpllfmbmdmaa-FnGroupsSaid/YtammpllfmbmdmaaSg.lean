/- The walk of spec.Groups: all cases but Push, Pop and PushGroup. -/
import Derived.Test.YtammpllfmbmdmaaGw
import Derived.Test.YtammpllfmbmdmaaLw
import Derived.Test.YtammpllfmbmdmaaGd
namespace Go.Proofs.Ytammpllfmbmdmaa
open Go.RowKit

def Row27 (w : World) (i : Nat) : Prop := ∃ cs, Blk w i 27 cs

/-- The slice holds slices that hold the lists L. -/
structure RowsIs (w0 w : World) (A : Option Addr) (n c : Nat) (us : List Value) (L : List (List Int)) : Prop where
  len : us.length = n
  lenL : L.length = n
  cap : n ≤ c
  max : c ≤ maxLen
  nil_ : A = none → c = 0
  reads : Reads w (Row27 w) 1 A n us
  each : ∀ (i : Nat) (u : Value) (l : List Int), us[i]? = some u → L[i]? = some l → ∃ Ai ci, u = .slice Ai l.length ci ∧ SliceIs w (OldRow w0 w) Ai l.length ci l

section
variable {w0 w w' : World} {A : Option Addr} {n c : Nat} {us : List Value} {L : List (List Int)}
theorem RowsIs.nil : RowsIs w0 w none 0 0 [] [] := ⟨rfl, rfl, Nat.le_refl _, by simp [maxLen], fun _ => rfl, Reads.none_, fun i u l hu => by simp at hu⟩
theorem RowsIs.chg {S : Nat → Prop} (h : RowsIs w0 w A n c us L) (hc : Chg S w w') (h27 : ∀ i cs, Blk w i 27 cs → ¬ S i) (h3 : ∀ i cs, Blk w i 3 cs → ¬ S i) (h0 : ∀ i, i < w0.heap.size → ¬ S i) : RowsIs w0 w' A n c us L :=
  ⟨h.len, h.lenL, h.cap, h.max, h.nil_, (h.reads.chg hc (fun i _ ⟨cs, hb⟩ => h27 i cs hb)).more (fun i _ ⟨cs, hb⟩ => ⟨cs, hb.chg hc (h27 i cs hb)⟩), fun i u l hu hl => by
    obtain ⟨Ai, ci, e, hs⟩ := h.each i u l hu hl
    exact ⟨Ai, ci, e, (hs.chg hc (fun i _ hk => hk.elim (h0 i) (fun ⟨cs, hb⟩ => h3 i cs hb))).more (fun i _ hk => OldRow.chg hc h3 i hk)⟩⟩
theorem RowsIs.gr (h : RowsIs w0 w A n c us L) (hg : Gr w w') : RowsIs w0 w' A n c us L := h.chg hg (fun _ _ _ h => h) (fun _ _ _ h => h) (fun _ _ h => h)
theorem RowsIs.last {k : Nat} (h : RowsIs w0 w A (k + 1) c us L) : ∃ ad us0 u L0 l Ai ci, A = some ad ∧ us = us0 ++ [u] ∧ L = L0 ++ [l] ∧ us0.length = k ∧ L0.length = k ∧ ad.block < w.heap.size ∧ w.cell? (ad.add k) = some u ∧ u = .slice Ai l.length ci ∧ SliceIs w (OldRow w0 w) Ai l.length ci l := by
  have h1 := h.len
  have h2 := h.lenL
  rcases List.eq_nil_or_concat us with rfl | ⟨us0, u, rfl⟩
  · simp at h1
  · rcases List.eq_nil_or_concat L with rfl | ⟨L0, l, rfl⟩
    · simp at h2
    · rw [List.concat_eq_append] at *
      rw [List.concat_eq_append] at *
      have h3 : us0.length = k := by simpa using h1
      have h4 : L0.length = k := by simpa using h2
      obtain ⟨ad, e, _, hlt, hc⟩ := h.reads.2 (by omega)
      have hc := hc k u (by rw [← h3]; simp)
      obtain ⟨Ai, ci, e2, hs⟩ := h.each k u l (by rw [← h3]; simp) (by rw [← h4]; simp)
      exact ⟨ad, us0, u, L0, l, Ai, ci, e, rfl, rfl, h3, h4, hlt, hc, e2, hs⟩
/-- The slice without its last element. -/
theorem RowsIs.take {k : Nat} {us0 : List Value} {u : Value} {L0 : List (List Int)} {l : List Int} (h : RowsIs w0 w A (k + 1) c (us0 ++ [u]) (L0 ++ [l])) : RowsIs w0 w A k c us0 L0 := by
  have h1 := h.len
  have h2 := h.lenL
  simp at h1 h2
  refine ⟨h1, h2, by have := h.cap; omega, h.max, h.nil_, ⟨by omega, fun hn => ?_⟩, fun i x y hx hy => ?_⟩
  · obtain ⟨ad, e, hk, hlt, hc⟩ := h.reads.2 (by omega)
    refine ⟨ad, e, hk, hlt, fun j u hu => hc j u ?_⟩
    have hj := (List.getElem?_eq_some_iff.1 hu).1
    rw [List.getElem?_append_left hj]; exact hu
  · have hi := (List.getElem?_eq_some_iff.1 hx).1
    exact h.each i x y (by rw [List.getElem?_append_left hi]; exact hx) (by rw [List.getElem?_append_left (by omega)]; exact hy)
theorem RowsIs.of_own {base : Nat} (h : w.ownsRow base 27 1 (.slice A n c) n us) (hL : L.length = n) (he : ∀ (i : Nat) (u : Value) (l : List Int), us[i]? = some u → L[i]? = some l → ∃ Ai ci, u = .slice Ai l.length ci ∧ SliceIs w (OldRow w0 w) Ai l.length ci l) : RowsIs w0 w A n c us L := by
  have h1 := own_cap h
  obtain ⟨A', c', e, hr⟩ := own_reads h
  injection e with e1 _ e2
  subst e1; subst e2
  refine ⟨by have := hr.1; simpa using this, hL, h1.1, h1.2, own_nil h, ⟨hr.1, fun hn => ?_⟩, he⟩
  obtain ⟨ad, rfl, _, hlt, hcs⟩ := hr.2 hn
  refine ⟨ad, rfl, ?_, hlt, hcs⟩
  rcases h.2 with ⟨h3, _⟩ | ⟨g, cap, cur, hv, _, hh, _⟩
  · injection h3 with h3; cases h3
  · injection hv with hv
    injection hv with hv
    rw [hv]; exact ⟨cur, hh⟩
end

/-- A step that panics. -/
def badG (L : List (List Int)) (s : StepD) : Prop := (L = [] ∧ (s.what = 0 ∨ s.what = 1 ∨ s.what = 5 ∨ s.what = 6)) ∨ (s.what = 1 ∧ L.getLast? = some [])

/-- What spec.Groups answers. -/
noncomputable def specGr (L : List (List Int)) (s : StepD) : List (List Int) × AnsD × Bool :=
  if s.what = 0 then (L.dropLast ++ [L.getLast?.getD [] ++ [s.n]], zeroAns, true)
  else if s.what = 1 then (L.dropLast ++ [(L.getLast?.getD []).dropLast], zeroAns, true)
  else if s.what = 3 then (L, ⟨L.length, false, [], false⟩, true)
  else if s.what = 4 then (L ++ [s.list], zeroAns, true)
  else if s.what = 5 then (L.dropLast, ⟨0, false, L.getLast?.getD [], false⟩, true)
  else if s.what = 6 then (L, ⟨0, false, L.getLast?.getD [], false⟩, true)
  else (L, zeroAns, s.what == 2)

/-- What it hands back. -/
def SgOut (w0 : World) (r : List (List Int) × AnsD × Bool) (w : World) (e : Ending) (w' : World) : Prop :=
  ∃ A' c' us' LA lc, e = .returned (.tuple #[.slice A' r.1.length c', .agg (r.2.1.cells (.slice LA r.2.1.list.length lc)), .bool r.2.2]) ∧ RowsIs w0 w' A' r.1.length c' us' r.1 ∧ SliceIs w' (OldRow w0 w') LA r.2.1.list.length lc r.2.1.list ∧ Below w.heap.size w w'

set_option maxHeartbeats 1000000 in
set_option maxRecDepth 100000 in
theorem sgroups_5 (w0 : World) (A : Option Addr) (k c : Nat) (us : List Value) (L : List (List Int)) (s : StepD) (LA : Option Addr) (lc : Nat) (w : World) (h : RowsIs w0 w A (k + 1) c us L) (hn : k ≤ 549755813888) (hw0 : w0.heap.size ≤ w.heap.size) (hw : s.what = 5) :
    Calls Try.prog 12 #[.slice A (k + 1) c, .agg (s.cells (.slice LA s.list.length lc))] w (SgOut w0 (specGr L s) w) := by
  obtain ⟨ad, us0, u, L0, l, Ai, ci, rfl, rfl, rfl, h0, hL0, hadl, hcu, rfl, hsl⟩ := h.last
  have hcap := h.cap
  have hst := start34 w (s.cells (.slice LA s.list.length lc)) #[.int .i64 0, .bool false, .slice none 0 0, .bool false]
  have hcW : ((w.alloc (.cells (s.cells (.slice LA s.list.length lc)) 34)).alloc (.cells #[.int .i64 0, .bool false, .slice none 0 0, .bool false] 31)).cell? (ad.add k) = some (.slice Ai l.length ci) := (Gr.cell (Gr.ofBelow hst.1) (by rw [block_of_add]; exact hadl)).trans hcu
  have H := hide h
  have HSL := hide hsl
  have HST := hide hst
  have hq : specGr (L0 ++ [l]) s = (L0, ⟨0, false, l, false⟩, true) := by simp [specGr, hw]
  rw [hq]
  have hic : k ≤ c := by omega
  clear h hsl hst hq
  unfold StepD.cells at *
  rw [hw] at HST hcW ⊢
  go_enter Try.func12, Try.ntmps12
  go_wp2
  generalize (w.alloc (.cells #[.int .i64 5, .int .i64 s.which, .int .i64 s.index, .int .i64 s.bit, .int .i64 s.n, .int .i64 s.key, .int .i64 s.value, .slice LA s.list.length lc] 34)).alloc (.cells #[.int .i64 0, .bool false, .slice none 0 0, .bool false] 31) = W at *
  have hz := HST.out.2.1
  have k0 : W.cell? ⟨w.heap.size + 1, 0, none⟩ = some (.int .i64 0) := by rw [hz.cell]; rfl
  have k1 : W.cell? ⟨w.heap.size + 1, 1, none⟩ = some (.bool false) := by rw [hz.cell]; rfl
  have k2 : W.cell? ⟨w.heap.size + 1, 2, none⟩ = some (.slice none 0 0) := by rw [hz.cell]; rfl
  have k3 : W.cell? ⟨w.heap.size + 1, 3, none⟩ = some (.bool false) := by rw [hz.cell]; rfl
  have f0 := hz.frozen 0
  have f1 := hz.frozen 1
  have f2 := hz.frozen 2
  have f3 := hz.frozen 3
  have HZ := hide hz
  clear hz
  obtain ⟨m, hm⟩ : ∃ m, m = l.length := ⟨_, rfl⟩
  rw [← hm] at hcW
  have HM := hide hm
  clear hm
  go_region
  go_wp2
  have hbF : Blk ((((W.setCell ⟨w.heap.size + 1, 0, none⟩ (.int .i64 0)).setCell ⟨w.heap.size + 1, 1, none⟩ (.bool false)).setCell ⟨w.heap.size + 1, 2, none⟩ (.slice Ai m ci)).setCell ⟨w.heap.size + 1, 3, none⟩ (.bool false)).drew (w.heap.size + 1) 31 #[.int .i64 0, .bool false, .slice Ai m ci, .bool false] := (((HZ.out.set_ 0 _).set_ 1 _).set_ 2 _).set_ 3 _
  have hcF : Chg (· = w.heap.size + 1) W ((((W.setCell ⟨w.heap.size + 1, 0, none⟩ (.int .i64 0)).setCell ⟨w.heap.size + 1, 1, none⟩ (.bool false)).setCell ⟨w.heap.size + 1, 2, none⟩ (.slice Ai m ci)).setCell ⟨w.heap.size + 1, 3, none⟩ (.bool false)).drew := (set4_chg W (w.heap.size + 1) _ _ _ _).drew
  generalize ((((W.setCell ⟨w.heap.size + 1, 0, none⟩ (.int .i64 0)).setCell ⟨w.heap.size + 1, 1, none⟩ (.bool false)).setCell ⟨w.heap.size + 1, 2, none⟩ (.slice Ai m ci)).setCell ⟨w.heap.size + 1, 3, none⟩ (.bool false)).drew = wF at *
  have j0 : wF.cell? ⟨w.heap.size + 1, 0, none⟩ = some (.int .i64 0) := by rw [hbF.cell]; rfl
  have j1 : wF.cell? ⟨w.heap.size + 1, 1, none⟩ = some (.bool false) := by rw [hbF.cell]; rfl
  have j2 : wF.cell? ⟨w.heap.size + 1, 2, none⟩ = some (.slice Ai m ci) := by rw [hbF.cell]; rfl
  have j3 : wF.cell? ⟨w.heap.size + 1, 3, none⟩ = some (.bool false) := by rw [hbF.cell]; rfl
  refine bodyPost_ret (v := .tuple #[.slice (some ad) k c, .agg #[.int .i64 0, .bool false, .slice Ai m ci, .bool false], .bool true]) ?_ rfl ?_
  · simp [results, Try.f12, go_sem, j0, j1, j2, j3]
  · have h27 : ∀ i cs, Blk W i 27 cs → ¬ i = w.heap.size + 1 := fun i cs hb e => hb.ne_ HZ.out (by decide) e
    have h3 : ∀ i cs, Blk W i 3 cs → ¬ i = w.heap.size + 1 := fun i cs hb e => hb.ne_ HZ.out (by decide) e
    have h0' : ∀ i, i < w0.heap.size → ¬ i = w.heap.size + 1 := fun i hi e => by omega
    refine ⟨some ad, c, us0, Ai, ci, by simp [AnsD.cells, HM.out, hL0], ?_, ?_, HST.out.1.trans (hcF.below HST.out.1.size (fun i hi => by omega))⟩
    · have h9 := (H.out.take.gr (Gr.ofBelow HST.out.1)).chg hcF h27 h3 h0'
      show RowsIs _ _ _ L0.length _ _ _
      rw [hL0]; exact h9
    · exact ((HSL.out.below HST.out.1).chg hcF (fun i hi hk e => hk.elim (h0' i · e) (fun ⟨cs, hb⟩ => by have := hb.lt; have := HST.out.2.2; omega))).more (fun i hi hk => hk.imp id (fun ⟨cs, hb⟩ => ⟨cs, (hb.below HST.out.1 hb.lt).chg hcF (fun e => by have := hb.lt; omega)⟩))

set_option maxHeartbeats 1000000 in
set_option maxRecDepth 100000 in
theorem sgroups_6 (w0 : World) (A : Option Addr) (k c : Nat) (us : List Value) (L : List (List Int)) (s : StepD) (LA : Option Addr) (lc : Nat) (w : World) (h : RowsIs w0 w A (k + 1) c us L) (hn : k ≤ 549755813888) (hw0 : w0.heap.size ≤ w.heap.size) (hw : s.what = 6) :
    Calls Try.prog 12 #[.slice A (k + 1) c, .agg (s.cells (.slice LA s.list.length lc))] w (SgOut w0 (specGr L s) w) := by
  obtain ⟨ad, us0, u, L0, l, Ai, ci, rfl, rfl, rfl, h0, hL0, hadl, hcu, rfl, hsl⟩ := h.last
  have hcap := h.cap
  have hst := start34 w (s.cells (.slice LA s.list.length lc)) #[.int .i64 0, .bool false, .slice none 0 0, .bool false]
  have hcW : ((w.alloc (.cells (s.cells (.slice LA s.list.length lc)) 34)).alloc (.cells #[.int .i64 0, .bool false, .slice none 0 0, .bool false] 31)).cell? (ad.add k) = some (.slice Ai l.length ci) := (Gr.cell (Gr.ofBelow hst.1) (by rw [block_of_add]; exact hadl)).trans hcu
  have H := hide h
  have HSL := hide hsl
  have HST := hide hst
  have hq : specGr (L0 ++ [l]) s = (L0 ++ [l], ⟨0, false, l, false⟩, true) := by simp [specGr, hw]
  rw [hq]
  have hic : k ≤ c := by omega
  clear h hsl hst hq
  unfold StepD.cells at *
  rw [hw] at HST hcW ⊢
  go_enter Try.func12, Try.ntmps12
  go_wp2
  generalize (w.alloc (.cells #[.int .i64 6, .int .i64 s.which, .int .i64 s.index, .int .i64 s.bit, .int .i64 s.n, .int .i64 s.key, .int .i64 s.value, .slice LA s.list.length lc] 34)).alloc (.cells #[.int .i64 0, .bool false, .slice none 0 0, .bool false] 31) = W at *
  have hz := HST.out.2.1
  have k0 : W.cell? ⟨w.heap.size + 1, 0, none⟩ = some (.int .i64 0) := by rw [hz.cell]; rfl
  have k1 : W.cell? ⟨w.heap.size + 1, 1, none⟩ = some (.bool false) := by rw [hz.cell]; rfl
  have k2 : W.cell? ⟨w.heap.size + 1, 2, none⟩ = some (.slice none 0 0) := by rw [hz.cell]; rfl
  have k3 : W.cell? ⟨w.heap.size + 1, 3, none⟩ = some (.bool false) := by rw [hz.cell]; rfl
  have f0 := hz.frozen 0
  have f1 := hz.frozen 1
  have f2 := hz.frozen 2
  have f3 := hz.frozen 3
  have HZ := hide hz
  clear hz
  obtain ⟨m, hm⟩ : ∃ m, m = l.length := ⟨_, rfl⟩
  rw [← hm] at hcW
  have HM := hide hm
  clear hm
  go_region
  go_wp2
  have hbF : Blk ((((W.setCell ⟨w.heap.size + 1, 0, none⟩ (.int .i64 0)).setCell ⟨w.heap.size + 1, 1, none⟩ (.bool false)).setCell ⟨w.heap.size + 1, 2, none⟩ (.slice Ai m ci)).setCell ⟨w.heap.size + 1, 3, none⟩ (.bool false)).drew (w.heap.size + 1) 31 #[.int .i64 0, .bool false, .slice Ai m ci, .bool false] := (((HZ.out.set_ 0 _).set_ 1 _).set_ 2 _).set_ 3 _
  have hcF : Chg (· = w.heap.size + 1) W ((((W.setCell ⟨w.heap.size + 1, 0, none⟩ (.int .i64 0)).setCell ⟨w.heap.size + 1, 1, none⟩ (.bool false)).setCell ⟨w.heap.size + 1, 2, none⟩ (.slice Ai m ci)).setCell ⟨w.heap.size + 1, 3, none⟩ (.bool false)).drew := (set4_chg W (w.heap.size + 1) _ _ _ _).drew
  generalize ((((W.setCell ⟨w.heap.size + 1, 0, none⟩ (.int .i64 0)).setCell ⟨w.heap.size + 1, 1, none⟩ (.bool false)).setCell ⟨w.heap.size + 1, 2, none⟩ (.slice Ai m ci)).setCell ⟨w.heap.size + 1, 3, none⟩ (.bool false)).drew = wF at *
  have j0 : wF.cell? ⟨w.heap.size + 1, 0, none⟩ = some (.int .i64 0) := by rw [hbF.cell]; rfl
  have j1 : wF.cell? ⟨w.heap.size + 1, 1, none⟩ = some (.bool false) := by rw [hbF.cell]; rfl
  have j2 : wF.cell? ⟨w.heap.size + 1, 2, none⟩ = some (.slice Ai m ci) := by rw [hbF.cell]; rfl
  have j3 : wF.cell? ⟨w.heap.size + 1, 3, none⟩ = some (.bool false) := by rw [hbF.cell]; rfl
  refine bodyPost_ret (v := .tuple #[.slice (some ad) (k + 1) c, .agg #[.int .i64 0, .bool false, .slice Ai m ci, .bool false], .bool true]) ?_ rfl ?_
  · simp [results, Try.f12, go_sem, j0, j1, j2, j3]
  · have h27 : ∀ i cs, Blk W i 27 cs → ¬ i = w.heap.size + 1 := fun i cs hb e => hb.ne_ HZ.out (by decide) e
    have h3 : ∀ i cs, Blk W i 3 cs → ¬ i = w.heap.size + 1 := fun i cs hb e => hb.ne_ HZ.out (by decide) e
    have h0' : ∀ i, i < w0.heap.size → ¬ i = w.heap.size + 1 := fun i hi e => by omega
    refine ⟨some ad, c, us0 ++ [.slice Ai l.length ci], Ai, ci, by simp [AnsD.cells, HM.out, hL0], ?_, ?_, HST.out.1.trans (hcF.below HST.out.1.size (fun i hi => by omega))⟩
    · have h9 := (H.out.gr (Gr.ofBelow HST.out.1)).chg hcF h27 h3 h0'
      show RowsIs _ _ _ (L0 ++ [l]).length _ _ _
      rw [List.length_append, hL0]; exact h9
    · exact ((HSL.out.below HST.out.1).chg hcF (fun i hi hk e => hk.elim (h0' i · e) (fun ⟨cs, hb⟩ => by have := hb.lt; have := HST.out.2.2; omega))).more (fun i hi hk => hk.imp id (fun ⟨cs, hb⟩ => ⟨cs, (hb.below HST.out.1 hb.lt).chg hcF (fun e => by have := hb.lt; omega)⟩))

set_option maxHeartbeats 1000000 in
set_option maxRecDepth 100000 in
theorem sgroups_3 (w0 : World) (A : Option Addr) (n c : Nat) (us : List Value) (L : List (List Int)) (s : StepD) (LA : Option Addr) (lc : Nat) (w : World) (h : RowsIs w0 w A n c us L) (_hn : n ≤ 549755813888) (hw : s.what = 3) :
    Calls Try.prog 12 #[.slice A n c, .agg (s.cells (.slice LA s.list.length lc))] w (SgOut w0 (specGr L s) w) := by
  have hst := start34 w (s.cells (.slice LA s.list.length lc)) #[.int .i64 0, .bool false, .slice none 0 0, .bool false]
  have H := hide h
  have HST := hide hst
  have hLn := h.lenL
  have hq : specGr L s = (L, ⟨L.length, false, [], false⟩, true) := by simp [specGr, hw]
  rw [hq]
  clear h hst hq
  unfold StepD.cells at *
  rw [hw] at HST ⊢
  go_enter Try.func12, Try.ntmps12
  have hfin : Hid (SgOut w0 (L, ⟨L.length, false, [], false⟩, true) w (.returned (.tuple #[.slice A n c, .agg #[.int .i64 n, .bool false, .slice none 0 0, .bool false], .bool true])) ((w.alloc (.cells #[.int .i64 3, .int .i64 s.which, .int .i64 s.index, .int .i64 s.bit, .int .i64 s.n, .int .i64 s.key, .int .i64 s.value, .slice LA s.list.length lc] 34)).alloc (.cells #[.int .i64 n, .bool false, .slice none 0 0, .bool false] 31))) := by
    have hb : Below w.heap.size w ((w.alloc (.cells #[.int .i64 3, .int .i64 s.which, .int .i64 s.index, .int .i64 s.bit, .int .i64 s.n, .int .i64 s.key, .int .i64 s.value, .slice LA s.list.length lc] 34)).alloc (.cells #[.int .i64 n, .bool false, .slice none 0 0, .bool false] 31)) := ((Below.refl _ _).alloc (Nat.le_refl _) _).alloc (by simp) _
    refine ⟨A, c, us, none, 0, by simp [AnsD.cells, hLn], ?_, SliceIs.none_, hb⟩
    have h9 := H.out.gr (Gr.ofBelow hb)
    show RowsIs _ _ _ L.length _ _ _
    rw [hLn]; exact h9
  rcases Nat.eq_zero_or_pos n with rfl | h0
  · clear hLn
    go_wp2
    refine bodyPost_ret (v := .tuple #[.slice A 0 c, .agg #[.int .i64 0, .bool false, .slice none 0 0, .bool false], .bool true]) ?_ rfl ?_
    · simp [results, Try.f12, go_sem]
    · exact hfin.out
  · clear hLn
    go_wp2
    refine bodyPost_ret (v := .tuple #[.slice A n c, .agg #[.int .i64 n, .bool false, .slice none 0 0, .bool false], .bool true]) ?_ rfl ?_
    · simp [results, Try.f12, go_sem]
    · exact hfin.out

set_option maxHeartbeats 1000000 in
set_option maxRecDepth 100000 in
theorem sgroups_e (w0 : World) (A : Option Addr) (n c : Nat) (us : List Value) (L : List (List Int)) (s : StepD) (LA : Option Addr) (lc : Nat) (w : World) (h : RowsIs w0 w A n c us L) (_hn : n ≤ 549755813888) (g0 : s.what ≠ 0) (g1 : s.what ≠ 1) (g3 : s.what ≠ 3) (g4 : s.what ≠ 4) (g5 : s.what ≠ 5) (g6 : s.what ≠ 6) :
    Calls Try.prog 12 #[.slice A n c, .agg (s.cells (.slice LA s.list.length lc))] w (SgOut w0 (specGr L s) w) := by
  have hst := start34 w (s.cells (.slice LA s.list.length lc)) #[.int .i64 0, .bool false, .slice none 0 0, .bool false]
  have H := hide h
  have HST := hide hst
  have hLn := h.lenL
  have hq : specGr L s = (L, zeroAns, s.what == 2) := by simp [specGr, g0, g1, g3, g4, g5, g6]
  rw [hq]
  clear h hst hq
  unfold StepD.cells at *
  have e0 : (s.what == 0) = false := beq_eq_false_iff_ne.2 g0
  have e1 : (s.what == 1) = false := beq_eq_false_iff_ne.2 g1
  have e3 : (s.what == 3) = false := beq_eq_false_iff_ne.2 g3
  have e4 : (s.what == 4) = false := beq_eq_false_iff_ne.2 g4
  have e5 : (s.what == 5) = false := beq_eq_false_iff_ne.2 g5
  have e6 : (s.what == 6) = false := beq_eq_false_iff_ne.2 g6
  clear g0 g1 g3 g4 g5 g6
  obtain ⟨fit, hfit⟩ : ∃ fit, (s.what == 2) = fit := ⟨_, rfl⟩
  rw [hfit]
  have hfin : Hid (SgOut w0 (L, zeroAns, fit) w (.returned (.tuple #[.slice A n c, .agg #[.int .i64 0, .bool false, .slice none 0 0, .bool false], .bool fit])) ((w.alloc (.cells #[.int .i64 s.what, .int .i64 s.which, .int .i64 s.index, .int .i64 s.bit, .int .i64 s.n, .int .i64 s.key, .int .i64 s.value, .slice LA s.list.length lc] 34)).alloc (.cells #[.int .i64 0, .bool false, .slice none 0 0, .bool false] 31)).drew) := by
    have hb : Below w.heap.size w ((w.alloc (.cells #[.int .i64 s.what, .int .i64 s.which, .int .i64 s.index, .int .i64 s.bit, .int .i64 s.n, .int .i64 s.key, .int .i64 s.value, .slice LA s.list.length lc] 34)).alloc (.cells #[.int .i64 0, .bool false, .slice none 0 0, .bool false] 31)).drew := (Chg.ofBelow HST.out.1 (fun _ => False)).drew.toBelow
    refine ⟨A, c, us, none, 0, by simp [AnsD.cells, hLn, zeroAns], ?_, SliceIs.none_, hb⟩
    have h9 := H.out.gr (Gr.ofBelow hb)
    rw [← hLn] at h9
    exact h9
  go_enter Try.func12, Try.ntmps12
  by_cases h0 : n = 0
  all_goals
    go_wp2
    go_region
    go_wp2
    refine bodyPost_ret (v := .tuple #[.slice A n c, .agg #[.int .i64 0, .bool false, .slice none 0 0, .bool false], .bool fit]) ?_ rfl ?_
    · simp [results, Try.f12, go_sem]
    · exact hfin.out

set_option maxHeartbeats 1000000 in
set_option maxRecDepth 100000 in
theorem sgroups_nil (w0 : World) (A : Option Addr) (c : Nat) (us : List Value) (L : List (List Int)) (s : StepD) (LA : Option Addr) (lc : Nat) (w : World) (h : RowsIs w0 w A 0 c us L) (hw : s.what = 0 ∨ s.what = 1 ∨ s.what = 5 ∨ s.what = 6) :
    Calls Try.prog 12 #[.slice A 0 c, .agg (s.cells (.slice LA s.list.length lc))] w (SgOut w0 (L, panAns, true) w) := by
  have hst := start34 w (s.cells (.slice LA s.list.length lc)) #[.int .i64 0, .bool false, .slice none 0 0, .bool true]
  have H := hide h
  have HST := hide hst
  have hLn := h.lenL
  clear h hst
  unfold StepD.cells at *
  rcases hw with hw | hw | hw | hw
  all_goals
    rw [hw] at HST ⊢
    go_enter Try.func12, Try.ntmps12
    go_wp2
    refine bodyPost_ret (v := .tuple #[.slice A 0 c, .agg #[.int .i64 0, .bool false, .slice none 0 0, .bool true], .bool true]) ?_ rfl ?_
    · simp [results, Try.f12, go_sem]
    · refine ⟨A, c, us, none, 0, by simp [AnsD.cells, hLn, panAns], ?_, SliceIs.none_, HST.out.1⟩
      have h9 := H.out.gr (Gr.ofBelow HST.out.1)
      show RowsIs _ _ _ L.length _ _ _
      rw [hLn]; exact h9

set_option maxHeartbeats 1000000 in
set_option maxRecDepth 100000 in
theorem sgroups_1e (w0 : World) (A : Option Addr) (k c : Nat) (us : List Value) (L : List (List Int)) (s : StepD) (LA : Option Addr) (lc : Nat) (w : World) (h : RowsIs w0 w A (k + 1) c us L) (hn : k ≤ 549755813888) (hl : L.getLast? = some []) (hw : s.what = 1) :
    Calls Try.prog 12 #[.slice A (k + 1) c, .agg (s.cells (.slice LA s.list.length lc))] w (SgOut w0 (L, panAns, true) w) := by
  obtain ⟨ad, us0, u, L0, l, Ai, ci, rfl, rfl, rfl, h0, hL0, hadl, hcu, rfl, hsl⟩ := h.last
  have hl0 : l = [] := by simpa using hl
  subst hl0
  have hst := start34 w (s.cells (.slice LA s.list.length lc)) #[.int .i64 0, .bool false, .slice none 0 0, .bool true]
  have hcW : ((w.alloc (.cells (s.cells (.slice LA s.list.length lc)) 34)).alloc (.cells #[.int .i64 0, .bool false, .slice none 0 0, .bool false] 31)).cell? (ad.add k) = some (.slice Ai 0 ci) := by
    have hst2 := start34 w (s.cells (.slice LA s.list.length lc)) #[.int .i64 0, .bool false, .slice none 0 0, .bool false]
    exact (Gr.cell (Gr.ofBelow hst2.1) (by rw [block_of_add]; exact hadl)).trans hcu
  have H := hide h
  have HST := hide hst
  clear h hsl hst
  unfold StepD.cells at *
  rw [hw] at HST hcW ⊢
  go_enter Try.func12, Try.ntmps12
  go_wp2
  refine bodyPost_ret (v := .tuple #[.slice (some ad) (k + 1) c, .agg #[.int .i64 0, .bool false, .slice none 0 0, .bool true], .bool true]) ?_ rfl ?_
  · simp [results, Try.f12, go_sem]
  · refine ⟨some ad, c, us0 ++ [.slice Ai 0 ci], none, 0, by simp [AnsD.cells, hL0, panAns], ?_, SliceIs.none_, HST.out.1⟩
    have h9 := H.out.gr (Gr.ofBelow HST.out.1)
    show RowsIs _ _ _ (L0 ++ [[]]).length _ _ _
    rw [List.length_append, hL0]; exact h9

end Go.Proofs.Ytammpllfmbmdmaa
