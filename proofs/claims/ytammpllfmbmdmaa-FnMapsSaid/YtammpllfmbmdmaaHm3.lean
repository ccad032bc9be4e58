/- Hash maps in memory: what a store, a new entry and an entry struck leave. No condition. -/
import Derived.Test.YtammpllfmbmdmaaHm2
namespace Go.Proofs.Ytammpllfmbmdmaa
open Go.RowKit
open Go.ChangeMaps (setBlock)

/-! ### the plain law -/
def upd (k v : Int) (q : Int × Int) : Int × Int := if q.1 = k then (k, v) else q
def putL (l : List (Int × Int)) (k v : Int) : List (Int × Int) := if k ∈ l.map (·.1) then l.map (upd k v) else l ++ [(k, v)]
def delL (l : List (Int × Int)) (k : Int) : List (Int × Int) := l.filter (fun q => !decide (q.1 = k))

theorem upd_fst (k v : Int) (q : Int × Int) : (upd k v q).1 = q.1 := by unfold upd; split <;> simp_all
theorem upd_ne {k v : Int} {q : Int × Int} (h : q.1 ≠ k) : upd k v q = q := if_neg h
theorem map_upd_keys (k v : Int) (l : List (Int × Int)) : (l.map (upd k v)).map (·.1) = l.map (·.1) := by
  rw [List.map_map]; congr 1; funext q; exact upd_fst k v q
theorem map_upd_id {k v : Int} {l : List (Int × Int)} (h : ∀ q ∈ l, q.1 ≠ k) : l.map (upd k v) = l := by
  induction l with
  | nil => rfl
  | cons q l ih => rw [List.map_cons, upd_ne (h q (by simp)), ih (fun q hq => h q (by simp [hq]))]
theorem filter_upd (k v md h : Int) (l : List (Int × Int)) : (l.map (upd k v)).filter (fun q => decide (hs md q.1 = h)) = (l.filter (fun q => decide (hs md q.1 = h))).map (upd k v) := by
  rw [List.filter_map]
  congr 2
  funext q
  simp only [Function.comp, upd_fst]

theorem nodup_put {l : List (Int × Int)} (k v : Int) (h : (l.map (·.1)).Nodup) : ((putL l k v).map (·.1)).Nodup := by
  unfold putL
  split
  · rw [map_upd_keys]; exact h
  · rename_i hk
    rw [List.map_append, List.nodup_append]
    refine ⟨h, by simp, ?_⟩
    intro a ha b hb e
    have : b = k := by simpa using hb
    exact hk (by rw [← this, ← e]; exact ha)

theorem keys_apart {c0 d : List (Int × Int)} {k v : Int} (hn : ((c0 ++ (k, v) :: d).map (·.1)).Nodup) : (∀ q ∈ c0, q.1 ≠ k) ∧ ∀ q ∈ d, q.1 ≠ k := by
  rw [List.map_append, List.map_cons, List.nodup_append, List.nodup_cons] at hn
  obtain ⟨_, ⟨h2, _⟩, h3⟩ := hn
  refine ⟨fun q hq e => h3 q.1 (List.mem_map.2 ⟨q, hq, rfl⟩) k (by simp) e, fun q hq e => h2 (List.mem_map.2 ⟨q, hq, e⟩)⟩

section
variable {md : Int} {mb p tb : Nat} {w w' : World} {l : List (Int × Int)} {F : Nat → Prop} {L : List (Int × Value)} {x y : Option Nat}

theorem Seg.frame (hh : ∀ b cs, Blk w b 131 cs → Blk w' b 131 cs) : ∀ {c : List (Int × Int)} {x : Option Nat}, Seg w F x y c → Seg w' F x y c
  | [], _, h => h
  | _ :: _, _, ⟨b, nx, e, hb, hk, h⟩ => ⟨b, nx, e, hb, hh b _ hk, Seg.frame hh h⟩

theorem Chains.frame (h : Chains md w F L l) (hh : ∀ b cs, Blk w b 131 cs → Blk w' b 131 cs) : Chains md w' F L l := fun k => by
  obtain ⟨x, c, h1, h2, h3⟩ := h k
  exact ⟨x, c, h1, h2.frame hh, h3⟩

theorem IMap.ne_blk {g t : Nat} {cs : Array Value} (h : IMap w tb L) (hb : Blk w g t cs) : tb ≠ g := by
  obtain ⟨es, clock, h1, _⟩ := h
  rintro rfl
  unfold Blk at hb
  rw [h1] at hb; cases hb

/-- A value stored into the entry at k. -/
theorem HM.setv (h1 : Blk w p 128 (hmCells mb tb l.length)) (h2 : IMap w tb L) (h3 : F tb) (h4 : Chains md w F L l) (hn : (l.map (·.1)).Nodup) (fp : F p) (hmod : Blk w mb 3 #[.int .i64 md]) (hlt : ∀ i, F i → i < w.heap.size) (hnm : ¬ F mb)
    {k v v0 : Int} {x0 : Option Nat} {b : Nat} {nx : Option Nat} {c0 d : List (Int × Int)} (hx : (L.lookup (hs md k)).getD (.pointer none) = pv x0) (hp : (c0 ++ (k, v0) :: d).Perm (l.filter (fun q => decide (hs md q.1 = hs md k))))
    (hs0 : Seg w F x0 (some b) c0) (hb : F b) (hk : Blk w b 131 (entry k v0 nx)) (hs1 : Seg w F nx none d) : HM md mb (w.setCell ⟨b, 1, none⟩ (.int .i64 v)) p (putL l k v) F := by
  have hcn := chain_nodup hn hp
  obtain ⟨hn0, hn1⟩ := keys_apart hcn
  have hkl : k ∈ l.map (·.1) := List.mem_map.2 ⟨(k, v0), ((chain_mem hp).1 (by simp)).1, rfl⟩
  have hput : putL l k v = l.map (upd k v) := if_pos hkl
  rw [hput]
  refine ⟨⟨tb, L, ?_, ?_, h3, ?_⟩, by rw [map_upd_keys]; exact hn, fp, ?_, fun i hi => by simpa [World.setCell] using hlt i hi, hnm⟩
  · rw [List.length_map]
    exact h1.far (h1.ne_ hk (by decide)) _
  · exact h2.of_block (Below.heap_setCell w _ _ _ (h2.ne_blk hk))
  · intro h
    by_cases hh : h = hs md k
    · subst hh
      refine ⟨x0, c0 ++ (k, v) :: d, hx, ?_, ?_⟩
      · have e1 : Blk (w.setCell ⟨b, 1, none⟩ (.int .i64 v)) b 131 (entry k v nx) := hk.set_ 1 _
        exact Seg.append (Seg.other (p := ⟨b, 1, none⟩) hk _ hn0 hs0) ⟨b, nx, rfl, hb, e1, Seg.other (p := ⟨b, 1, none⟩) hk _ hn1 hs1⟩
      · rw [filter_upd]
        have e2 : c0 ++ (k, v) :: d = (c0 ++ (k, v0) :: d).map (upd k v) := by
          rw [List.map_append, List.map_cons, map_upd_id hn0, map_upd_id hn1]
          simp [upd]
        rw [e2]
        exact hp.map _
    · obtain ⟨x, c, h5, h6, h7⟩ := h4 h
      have hne : ∀ q ∈ l.filter (fun q => decide (hs md q.1 = h)), q.1 ≠ k := fun q hq e => by
        have := (List.mem_filter.1 hq).2
        rw [decide_eq_true_eq, e] at this
        exact hh this.symm
      refine ⟨x, c, h5, Seg.other (p := ⟨b, 1, none⟩) hk _ (fun q hq => hne q (h7.mem_iff.1 hq)) h6, ?_⟩
      rw [filter_upd, map_upd_id hne]
      exact h7
  · exact hmod.far (hmod.ne_ hk (by decide)) _

theorem lookup_iput' {L : List (Int × Value)} {x y : Int} {v : Value} : ((iput L x v).lookup y).getD (.pointer none) = if y = x then v else (L.lookup y).getD (.pointer none) := by
  rw [lookup_iput]
  split <;> rfl

/-- A new entry ahead of the chain. -/
theorem HM.add (h1 : Blk w p 128 (hmCells mb tb l.length)) (h3 : F tb) (h4 : Chains md w F L l) (hn : (l.map (·.1)).Nodup) (fp : F p) (hmod : Blk w mb 3 #[.int .i64 md]) (hlt : ∀ i, F i → i < w.heap.size) (hnm : ¬ F mb)
    {k v : Int} {g : Nat} {x0 : Option Nat} {c : List (Int × Int)} (h2 : IMap w tb (iput L (hs md k) (pv (some g)))) (hp : c.Perm (l.filter (fun q => decide (hs md q.1 = hs md k))))
    (hs0 : Seg w F x0 none c) (hk : Blk w g 131 (entry k v x0)) (hkl : k ∉ l.map (·.1)) : HM md mb (w.setCell ⟨p, 6, none⟩ (.int .i64 ((l.length : Int) + 1))) p (putL l k v) (fun i => F i ∨ i = g) := by
  have hput : putL l k v = l ++ [(k, v)] := if_neg hkl
  have hfr : ∀ b cs, Blk w b 131 cs → Blk (w.setCell ⟨p, 6, none⟩ (.int .i64 ((l.length : Int) + 1))) b 131 cs := fun b cs hb => hb.far (hb.ne_ h1 (by decide)) _
  refine ⟨⟨tb, _, ?_, h2.of_block (Below.heap_setCell w _ _ _ (h2.ne_blk h1)), Or.inl h3, ?_⟩, nodup_put k v hn, Or.inl fp, hmod.far (hmod.ne_ h1 (by decide)) _, ?_, ?_⟩
  · rw [hput, List.length_append]
    exact h1.set_ 6 _
  · rw [hput]
    intro h
    rw [lookup_iput']
    by_cases hh : h = hs md k
    · subst hh
      rw [if_pos rfl]
      refine ⟨some g, (k, v) :: c, rfl, ⟨g, x0, rfl, Or.inr rfl, hfr _ _ hk, (hs0.frame hfr).more (fun _ h => Or.inl h)⟩, ?_⟩
      rw [List.filter_append]
      have e1 : [(k, v)].filter (fun q => decide (hs md q.1 = hs md k)) = [(k, v)] := by simp
      rw [e1]
      exact (hp.cons (k, v)).trans (List.perm_append_singleton _ _).symm
    · rw [if_neg hh]
      obtain ⟨x, c', h5, h6, h7⟩ := h4 h
      refine ⟨x, c', h5, (h6.frame hfr).more (fun _ h => Or.inl h), ?_⟩
      rw [List.filter_append]
      have e1 : [(k, v)].filter (fun q => decide (hs md q.1 = h)) = [] := by simp [Ne.symm hh]
      rw [e1, List.append_nil]
      exact h7
  · rintro i (hi | rfl)
    · simpa [World.setCell] using hlt i hi
    · simpa [World.setCell] using hk.lt
  · rintro (h | rfl)
    · exact hnm h
    · exact hmod.ne_ hk (by decide) rfl

theorem filter_del (md h k : Int) (l : List (Int × Int)) : (delL l k).filter (fun q => decide (hs md q.1 = h)) = (l.filter (fun q => decide (hs md q.1 = h))).filter (fun q => !decide (q.1 = k)) := by
  unfold delL
  rw [List.filter_filter, List.filter_filter]
  congr 1
  funext q
  rw [Bool.and_comm]

theorem del_id {l : List (Int × Int)} {k : Int} (h : ∀ q ∈ l, q.1 ≠ k) : l.filter (fun q => !decide (q.1 = k)) = l :=
  List.filter_eq_self.2 (fun q hq => by simp [h q hq])

theorem len_del {l : List (Int × Int)} {k v : Int} (hn : (l.map (·.1)).Nodup) (h : (k, v) ∈ l) : ((delL l k).length : Int) = (l.length : Int) - 1 := by
  obtain ⟨a, b, rfl⟩ := List.append_of_mem h
  obtain ⟨h0, h1⟩ := keys_apart hn
  unfold delL
  rw [List.filter_append, List.filter_cons, del_id h0, del_id h1]
  simp
  omega

/-- An entry struck: what the chain of k is then. -/
theorem HM.cut {k : Int} {L' : List (Int × Value)} (h1 : Blk w p 128 (hmCells mb tb l.length)) (h2 : IMap w tb L') (h3 : F tb) (h4 : ∀ h, h ≠ hs md k → ∃ x c, (L.lookup h).getD (.pointer none) = pv x ∧ Seg w F x none c ∧ c.Perm (l.filter (fun q => decide (hs md q.1 = h)))) (hn : (l.map (·.1)).Nodup) (fp : F p) (hmod : Blk w mb 3 #[.int .i64 md]) (hlt : ∀ i, F i → i < w.heap.size) (hnm : ¬ F mb)
    {v0 : Int} {x' : Option Nat} {c0 d : List (Int × Int)} (hp : (c0 ++ (k, v0) :: d).Perm (l.filter (fun q => decide (hs md q.1 = hs md k))))
    (hL : ∀ h, (L'.lookup h).getD (.pointer none) = if h = hs md k then pv x' else (L.lookup h).getD (.pointer none)) (hs0 : Seg w F x' none (c0 ++ d)) : HM md mb (w.setCell ⟨p, 6, none⟩ (.int .i64 ((l.length : Int) - 1))) p (delL l k) F := by
  have hcn := chain_nodup hn hp
  obtain ⟨hn0, hn1⟩ := keys_apart hcn
  have hkl : (k, v0) ∈ l := ((chain_mem hp).1 (by simp)).1
  have hfr : ∀ b cs, Blk w b 131 cs → Blk (w.setCell ⟨p, 6, none⟩ (.int .i64 ((l.length : Int) - 1))) b 131 cs := fun b cs hb => hb.far (hb.ne_ h1 (by decide)) _
  refine ⟨⟨tb, _, ?_, h2.of_block (Below.heap_setCell w _ _ _ (h2.ne_blk h1)), h3, ?_⟩, nodup_filter _ hn, fp, hmod.far (hmod.ne_ h1 (by decide)) _, fun i hi => by simpa [World.setCell] using hlt i hi, hnm⟩
  · have := h1.set_ 6 (.int .i64 ((l.length : Int) - 1))
    rw [← len_del hn hkl] at this ⊢
    exact this
  · intro h
    rw [hL h]
    by_cases hh : h = hs md k
    · subst hh
      rw [if_pos rfl]
      refine ⟨x', c0 ++ d, rfl, hs0.frame hfr, ?_⟩
      rw [filter_del]
      have e1 : c0 ++ d = (c0 ++ (k, v0) :: d).filter (fun q => !decide (q.1 = k)) := by
        rw [List.filter_append, List.filter_cons, del_id hn0, del_id hn1]
        simp
      rw [e1]
      exact hp.filter _
    · rw [if_neg hh]
      obtain ⟨x, c', h5, h6, h7⟩ := h4 h hh
      refine ⟨x, c', h5, h6.frame hfr, ?_⟩
      rw [filter_del, del_id]
      · exact h7
      · intro q hq e
        have := (List.mem_filter.1 hq).2
        rw [decide_eq_true_eq, e] at this
        exact hh this.symm
end
end Go.Proofs.Ytammpllfmbmdmaa
