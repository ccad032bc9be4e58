/- Hash maps in memory: chains of entries, a table of chains, a range over a table under way. No condition. -/
import Derived.Test.YtammpllfmbmdmaaRun2
import Derived.Maps.RangeRun
namespace Go.Proofs.Ytammpllfmbmdmaa
open Go.RowKit
open Go.ChangeMaps (setBlock)

/-! ### chains -/
/-- A pointer to an entry. -/
def pv : Option Nat → Value
  | none => .pointer none
  | some b => .pointer (some ⟨b, 0, none⟩)

theorem pv_inj {x y : Option Nat} (h : pv x = pv y) : x = y := by
  cases x <;> cases y <;> simp [pv] at h ⊢
  exact h

def entry (k v : Int) (nx : Option Nat) : Array Value := #[.int .i64 k, .int .i64 v, pv nx]

/-- From x along the entries of c, all in blocks of F, one comes to y. -/
def Seg (w : World) (F : Nat → Prop) : Option Nat → Option Nat → List (Int × Int) → Prop
  | x, y, [] => x = y
  | x, y, q :: c => ∃ b nx, x = some b ∧ F b ∧ Blk w b 131 (entry q.1 q.2 nx) ∧ Seg w F nx y c

section
variable {w w' : World} {F G S : Nat → Prop} {x y z : Option Nat} {c d : List (Int × Int)}

theorem Seg.append : ∀ {c : List (Int × Int)} {x : Option Nat}, Seg w F x y c → Seg w F y z d → Seg w F x z (c ++ d)
  | [], _, h, k => by have : _ = _ := h; rw [this]; exact k
  | _ :: _, _, ⟨b, nx, e, hb, hk, h⟩, k => ⟨b, nx, e, hb, hk, Seg.append h k⟩

theorem Seg.split : ∀ {c : List (Int × Int)} {x : Option Nat}, Seg w F x z (c ++ d) → ∃ y, Seg w F x y c ∧ Seg w F y z d
  | [], x, h => ⟨x, rfl, h⟩
  | _ :: _, _, ⟨b, nx, e, hb, hk, h⟩ => by
    obtain ⟨y, h1, h2⟩ := Seg.split h
    exact ⟨y, ⟨b, nx, e, hb, hk, h1⟩, h2⟩

theorem Seg.chg (hc : Chg S w w') (hF : ∀ i, F i → ¬ S i) : ∀ {c : List (Int × Int)} {x : Option Nat}, Seg w F x y c → Seg w' F x y c
  | [], _, h => h
  | _ :: _, _, ⟨b, nx, e, hb, hk, h⟩ => ⟨b, nx, e, hb, hk.chg hc (hF b hb), Seg.chg hc hF h⟩

theorem Seg.more (hF : ∀ i, F i → G i) : ∀ {c : List (Int × Int)} {x : Option Nat}, Seg w F x y c → Seg w G x y c
  | [], _, h => h
  | _ :: _, _, ⟨b, nx, e, hb, hk, h⟩ => ⟨b, nx, e, hF b hb, hk, Seg.more hF h⟩

/-- A store into an entry whose key is not on the chain leaves the chain. -/
theorem Seg.other {p : Addr} {k v : Int} {n : Option Nat} (hb : Blk w p.block 131 (entry k v n)) (u : Value) : ∀ {c : List (Int × Int)} {x : Option Nat}, (∀ q ∈ c, q.1 ≠ k) → Seg w F x y c → Seg (w.setCell p u) F x y c
  | [], _, _, h => h
  | q :: _, _, hne, ⟨b, nx, e, hF, hk, h⟩ => by
    refine ⟨b, nx, e, hF, hk.far ?_ u, Seg.other hb u (fun q hq => hne q (by simp [hq])) h⟩
    intro e
    have h1 := hk
    unfold Blk at h1 hb
    rw [e, hb] at h1
    simp [entry] at h1
    exact hne q (by simp) h1.1.symm

theorem Seg.nil_of_none (h : Seg w F none y c) : c = [] ∧ y = none := by
  cases c with
  | nil => exact ⟨rfl, (show none = y from h).symm⟩
  | cons q c => obtain ⟨b, nx, e, _⟩ := h; cases e

theorem Seg.cons_of {b : Nat} (h : Seg w F (some b) none c) : ∃ q d nx, c = q :: d ∧ F b ∧ Blk w b 131 (entry q.1 q.2 nx) ∧ Seg w F nx none d := by
  cases c with
  | nil => cases (show some b = none from h)
  | cons q c =>
    obtain ⟨b', nx, e, hF, hk, h⟩ := h
    cases e
    exact ⟨q, c, nx, rfl, hF, hk, h⟩
end

theorem entry_cells {w : World} {b : Nat} {k v : Int} {nx : Option Nat} (h : Blk w b 131 (entry k v nx)) : w.cell? ⟨b, 0, none⟩ = some (.int .i64 k) ∧ w.cell? ⟨b, 1, none⟩ = some (.int .i64 v) ∧ w.cell? ⟨b, 2, none⟩ = some (pv nx) :=
  ⟨by rw [h.cell]; rfl, by rw [h.cell]; rfl, by rw [h.cell]; rfl⟩

/-! ### a range over a table, under way -/
/-- Block r ranges over the map in block b, whose entries are L; the keys T are still to come. -/
def IRng (w : World) (b r : Nat) (L : List (Int × Value)) (T : List Int) : Prop :=
  ∃ es clock since seen c0, w.heap[b]? = some (.map es clock) ∧ es.toList.map (fun e => (e.key, e.val)) = L.map (fun p => (Value.int .i64 p.1, p.2)) ∧ (L.map (·.1)).Nodup ∧ (es.toList.map (·.born)).Nodup ∧
    w.heap[r]? = some (.mapIter (some b) since seen c0) ∧ (∀ e ∈ es.toList, e.born < since) ∧ since ≤ c0 ∧ since ≤ clock ∧
    (∀ e ∈ es.toList, ∀ x, e.key = .int .i64 x → (x ∈ T ↔ seen.contains e.born = false)) ∧ T.Nodup ∧ ∀ x ∈ T, x ∈ L.map (·.1)

section
variable {P : Program} {w w' : World} {b r : Nat} {L : List (Int × Value)} {T : List Int}
theorem IRng.of_blocks (h : IRng w b r L T) (hb : w'.heap[b]? = w.heap[b]?) (hr : w'.heap[r]? = w.heap[r]?) : IRng w' b r L T := by
  obtain ⟨es, clock, since, seen, c0, h1, h2, h3, h4, h5, rest⟩ := h
  exact ⟨es, clock, since, seen, c0, hb.trans h1, h2, h3, h4, hr.trans h5, rest⟩
theorem IRng.lt (h : IRng w b r L T) : b < w.heap.size ∧ r < w.heap.size ∧ r ≠ b := by
  obtain ⟨es, clock, since, seen, c0, h1, h2, h3, h4, h5, rest⟩ := h
  refine ⟨(Array.getElem?_eq_some_iff.1 h1).1, (Array.getElem?_eq_some_iff.1 h5).1, ?_⟩
  rintro rfl
  rw [h1] at h5; cases h5
theorem IRng.chg {S : Nat → Prop} (h : IRng w b r L T) (hc : Chg S w w') (hb : ¬ S b) (hr : ¬ S r) : IRng w' b r L T :=
  h.of_blocks (hc.block b h.lt.1 hb) (hc.block r h.lt.2.1 hr)


theorem IMap.mem_key {es : Array MapEntry} (h : es.toList.map (fun e => (e.key, e.val)) = L.map (fun p => (Value.int .i64 p.1, p.2))) {e : MapEntry} (he : e ∈ es.toList) : ∃ x v, (x, v) ∈ L ∧ e.key = .int .i64 x ∧ e.val = v := by
  obtain ⟨j, hj⟩ := List.mem_iff_getElem?.1 he
  obtain ⟨p, hp, h1, h2⟩ := IMap.at_ h hj
  exact ⟨p.1, p.2, List.mem_of_getElem? hp, h1, h2⟩

theorem IMap.key_mem {es : Array MapEntry} (h : es.toList.map (fun e => (e.key, e.val)) = L.map (fun p => (Value.int .i64 p.1, p.2))) {x : Int} (hx : x ∈ L.map (·.1)) : ∃ e ∈ es.toList, e.key = .int .i64 x := by
  obtain ⟨p, hp, rfl⟩ := List.mem_map.1 hx
  have : (Value.int .i64 p.1, p.2) ∈ es.toList.map (fun e => (e.key, e.val)) := by rw [h]; exact List.mem_map.2 ⟨p, hp, rfl⟩
  obtain ⟨e, he, h1⟩ := List.mem_map.1 this
  exact ⟨e, he, congrArg Prod.fst h1⟩

theorem born_of_key {es : Array MapEntry} (h : es.toList.map (fun e => (e.key, e.val)) = L.map (fun p => (Value.int .i64 p.1, p.2))) (hn : (L.map (·.1)).Nodup) {e f : MapEntry} (he : e ∈ es.toList) (hf : f ∈ es.toList) (hk : e.key = f.key) : e = f := by
  obtain ⟨i, hi⟩ := List.mem_iff_getElem?.1 he
  obtain ⟨j, hj⟩ := List.mem_iff_getElem?.1 hf
  obtain ⟨p, hp, h1, h2⟩ := IMap.at_ h hi
  obtain ⟨q, hq, h3, h4⟩ := IMap.at_ h hj
  have hpq : p.1 = q.1 := by
    rw [h1, h3] at hk
    injection hk
  have : i = j := nodup_at hn (i := i) (j := j) (a := p.1) (by rw [List.getElem?_map, hp]; rfl) (by rw [List.getElem?_map, hq, hpq]; rfl)
  subst this
  exact Option.some.inj (hi.symm.trans hj)

theorem IMap.range {t kt et : TypeId} (h : IMap w b L) (ht : P.underlying t = some (.map kt et)) :
    ∃ o, (Instr.range t (.map (some b))).run P w = .ok (.pointer (some ⟨w.heap.size, 0, none⟩)) (w.alloc o) ∧ IRng (w.alloc o) b w.heap.size L (L.map (·.1)) := by
  have hlt := h.lt
  obtain ⟨es, clock, hb, he, hn, hlt2, hbn⟩ := h
  refine ⟨_, run_range_map w t kt et b es clock ht hb, es, clock, clock, #[], clock, (Below.heap_alloc w _ b hlt).trans hb, he, hn, hbn, heap_alloc_new w _, hlt2, Nat.le_refl _, Nat.le_refl _, ?_, hn, fun _ h => h⟩
  intro e hee x hx
  refine ⟨fun _ => by simp, fun _ => ?_⟩
  obtain ⟨y, v, hm, hk, _⟩ := IMap.mem_key he hee
  have : x = y := by rw [hx] at hk; injection hk
  subst this
  exact List.mem_map.2 ⟨_, hm, rfl⟩

theorem IRng.next (h : IRng w b r L T) (ty : TypeId) :
    (T = [] ∧ (Instr.next (.pointer (some ⟨r, 0, none⟩)) false ty).run P w = .ok (.tuple #[.bool false]) w) ∨
    ∃ x v w', (x, v) ∈ L ∧ x ∈ T ∧ (Instr.next (.pointer (some ⟨r, 0, none⟩)) false ty).run P w = .ok (.tuple #[.bool true, .int .i64 x, v]) w' ∧ IRng w' b r L (T.filter (fun y => !decide (y = x))) ∧ w.grownBy w' (some r) ∧ w'.heap.size = w.heap.size ∧
      (Instr.entry (.pointer (some ⟨r, 0, none⟩))).run P w' = .ok (.tuple #[.int .i64 x, v]) w' := by
  have hne := h.lt.2.2
  have hszd2 : ∀ (W : World) (r : Nat) (o : Obj), (setBlock W.drew r o).heap.size = W.heap.size := fun W r o => by
    show (W.heap.setIfInBounds r o).size = _
    simp
  have hszd : ∀ (W : World) (r : Nat) (o : Obj), W.heap.size ≤ (setBlock W.drew r o).heap.size := fun W r o => Nat.le_of_eq (hszd2 W r o).symm
  obtain ⟨es, clock, since, seen, c0, hb, he, hn, hbn, hr, hold, hsc, hsk, hT, hTn, hTs⟩ := h
  rcases run_next_at (P := P) w ty r b since c0 seen es clock hr hb hold hsc with ⟨h0, hrun⟩ | ⟨e, hel, w1, hal, hrun⟩
  · left
    refine ⟨?_, hrun⟩
    cases T with
    | nil => rfl
    | cons x T =>
      obtain ⟨e, hee, hk⟩ := IMap.key_mem he (hTs x (by simp))
      have h1 := (hT e hee x hk).1 (by simp)
      rw [all_seen es seen h0 e hee] at h1
      cases h1
  · right
    obtain ⟨hem, hes⟩ := mem_left hel
    obtain ⟨x, v, hm, hk, hv⟩ := IMap.mem_key he hem
    have hr1 : w1.heap[r]? = some (.mapIter (some b) since seen c0) := by rcases hal with rfl | rfl <;> exact hr
    have hb1 : w1.heap[b]? = some (.map es clock) := by rcases hal with rfl | rfl <;> exact hb
    have hrl : r < w1.heap.size := (Array.getElem?_eq_some_iff.1 hr1).1
    have hset : (setBlock w1 r (.mapIter (some b) since (seen.push e.born) clock)).heap[r]? = some (.mapIter (some b) since (seen.push e.born) clock) := by
      show (w1.heap.setIfInBounds r _)[r]? = _
      simp [hrl]
    have hoth : ∀ i, i ≠ r → (setBlock w1 r (.mapIter (some b) since (seen.push e.born) clock)).heap[i]? = w1.heap[i]? := by
      intro i hi
      show (w1.heap.setIfInBounds r _)[i]? = _
      rw [Array.getElem?_setIfInBounds_ne (Ne.symm hi)]
    refine ⟨x, v, _, hm, (hT e hem x hk).2 hes, by rw [hrun, hk, hv], ?_, ?_, ?_, ?_⟩
    · refine ⟨es, clock, since, seen.push e.born, clock, (hoth b (Ne.symm hne)).trans hb1, he, hn, hbn, hset, hold, hsk, hsk, ?_, hTn.filter _, fun y hy => hTs y (List.mem_filter.1 hy).1⟩
      intro f hf y hy
      rw [List.mem_filter, hT f hf y hy]
      have hyx : y = x ↔ f.born = e.born := by
        constructor
        · rintro rfl
          rw [born_of_key he hn hf hem (hy.trans hk.symm)]
        · intro hbe
          have : f = e := by
            obtain ⟨i, hi⟩ := List.mem_iff_getElem?.1 hf
            obtain ⟨j, hj⟩ := List.mem_iff_getElem?.1 hem
            have : i = j := nodup_at hbn (i := i) (j := j) (a := f.born) (by rw [List.getElem?_map, hi]; rfl) (by rw [List.getElem?_map, hj, hbe]; rfl)
            subst this
            exact Option.some.inj (hi.symm.trans hj)
          rw [this, hk] at hy
          injection hy with _ h2
          exact h2.symm
      by_cases hb2 : f.born = e.born
      · simp [hyx.2 hb2, hb2]
      · have h3 : y ≠ x := fun e1 => hb2 (hyx.1 e1)
        simp [h3, hb2]
    · rcases hal with rfl | rfl
      · exact ⟨rfl, rfl, rfl, by simp [setBlock], fun i hi hne => hoth i (fun e => hne (by rw [e]))⟩
      · exact ⟨rfl, rfl, rfl, hszd _ _ _, fun i hi hne => hoth i (fun e => hne (by rw [e]))⟩
    · rcases hal with rfl | rfl
      · simp [setBlock]
      · exact hszd2 _ _ _
    · have h2 := run_entry_at (P := P) (setBlock w1 r (.mapIter (some b) since (seen.push e.born) clock)) r b since seen es clock e hset ((hoth b (Ne.symm hne)).trans hb1) hem hbn
      rw [h2, hk, hv]
end

section
variable {P : Program} {w : World} {ops : Array Oper} {rest : List Oper} {o : Oper} {a : Act} {Q : Exit → Act → World → Prop} {b r : Nat} {L : List (Int × Value)} {T : List Int}

theorem wpList_range_i (hg : o.guard = none) (m : Operand) (t : TypeId) (hop : o.op = Op.range t m) (kt et : TypeId) (ht : P.underlying t = some (.map kt et)) (hm : a.eval m = .map (some b)) (h : IMap w b L)
    (hK : ∀ ob, IRng (w.alloc ob) b w.heap.size L (L.map (·.1)) → wpList P ops Q rest (a.put o.dst (.pointer (some ⟨w.heap.size, 0, none⟩))) (w.alloc ob)) : wpList P ops Q (o :: rest) a w := by
  refine wpList_plain hg fun K' hK' => ?_
  obtain ⟨ob, hrun, hr⟩ := h.range (P := P) ht
  unfold Oper.wp
  simp [execOp, hop, hm, hrun, Result.andThen]
  exact hK' _ _ (hK ob hr)

theorem wpList_next_i (hg : o.guard = none) (it : Operand) (hop : o.op = Op.next it false) (hit : a.eval it = .pointer (some ⟨r, 0, none⟩)) (h : IRng w b r L T)
    (hDone : T = [] → wpList P ops Q rest (a.put o.dst (.tuple #[.bool false])) w)
    (hMore : ∀ x v w', (x, v) ∈ L → x ∈ T → IRng w' b r L (T.filter (fun y => !decide (y = x))) → w.grownBy w' (some r) → w'.heap.size = w.heap.size →
      (Instr.entry (.pointer (some ⟨r, 0, none⟩))).run P w' = .ok (.tuple #[.int .i64 x, v]) w' → wpList P ops Q rest (a.put o.dst (.tuple #[.bool true, .int .i64 x, v])) w') : wpList P ops Q (o :: rest) a w := by
  refine wpList_plain hg fun K' hK' => ?_
  unfold Oper.wp
  rcases h.next (P := P) o.type with ⟨h0, hrun⟩ | ⟨x, v, w', hm, hx, hrun, hr, hgr, hsz, hen⟩
  · simp [execOp, hop, hit, hrun, Result.andThen]
    exact hK' _ _ (hDone h0)
  · simp [execOp, hop, hit, hrun, Result.andThen]
    exact hK' _ _ (hMore x v w' hm hx hr hgr hsz hen)
end
end Go.Proofs.Ytammpllfmbmdmaa
