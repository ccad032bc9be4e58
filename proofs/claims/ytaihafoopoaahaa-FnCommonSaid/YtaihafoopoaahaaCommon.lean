/- Words for memory that all proofs of this seat share: what a part of a call may have changed (Chg), a block known whole (Blk), a slice that reads as a list of values (Reads), a map of int keys that reads as a list of pairs (IMap), and their laws. No condition. -/
import Derived.WalkKit
import Derived.WalkLawsBesides
import Derived.WalkSpells
import Derived.Lib.Hide
import Derived.Laws.OwnMore
import Derived.Laws.MakeOwn
import Derived.Deep.AppendLies
import Derived.Deep.Draws
import Derived.Maps.RangeRun
import Derived.MapKept
namespace Go.Proofs.Ytaihafoopoaahaa
open Go.RowKit
open Go.ChangeMaps (setBlock)

theorem hide {p : Prop} (h : p) : Hid p := h

/-! ### what may have changed -/

/-- Between w and w' no old block has changed but those in S; the streams are as they were. -/
structure Chg (S : Nat → Prop) (w w' : World) : Prop where
  os : w'.os = w.os
  tape : w'.tape = w.tape
  output : w'.output = w.output
  size : w.heap.size ≤ w'.heap.size
  block : ∀ k, k < w.heap.size → ¬ S k → w'.heap[k]? = w.heap[k]?

section
variable {S T : Nat → Prop} {a w w' : World}
theorem Chg.refl (S : Nat → Prop) (w : World) : Chg S w w := ⟨rfl, rfl, rfl, Nat.le_refl _, fun _ _ _ => rfl⟩
theorem Chg.trans (h : Chg S a w) (k : Chg T w w') (hT : ∀ i, i < a.heap.size → T i → S i) : Chg S a w' :=
  ⟨k.os.trans h.os, k.tape.trans h.tape, k.output.trans h.output, Nat.le_trans h.size k.size, fun i hi hS => (k.block i (Nat.lt_of_lt_of_le hi h.size) (fun ht => hS (hT i hi ht))).trans (h.block i hi hS)⟩
theorem Chg.mono (h : Chg S w w') (hS : ∀ i, i < w.heap.size → S i → T i) : Chg T w w' := ⟨h.os, h.tape, h.output, h.size, fun i hi ht => h.block i hi (fun hs => ht (hS i hi hs))⟩
theorem Chg.drew (h : Chg S a w) : Chg S a w.drew := ⟨h.os, h.tape, h.output, h.size, h.block⟩
theorem Chg.drewN (h : Chg S a w) (n : Nat) : Chg S a (w.drewN n) := ⟨h.os, h.tape, h.output, h.size, h.block⟩
theorem Chg.alloc (h : Chg S a w) (o : Obj) : Chg S a (w.alloc o) :=
  ⟨h.os, h.tape, h.output, Nat.le_trans h.size (by simp), fun i hi hs => (Below.heap_alloc w o i (Nat.lt_of_lt_of_le hi h.size)).trans (h.block i hi hs)⟩
theorem Chg.setCell (h : Chg S a w) {p : Addr} (hp : p.block < a.heap.size → S p.block) (u : Value) : Chg S a (w.setCell p u) :=
  ⟨h.os, h.tape, h.output, by simpa [World.setCell] using h.size, fun i hi hs => (Below.heap_setCell w p u i (fun e => hs (by rw [e]; exact hp (by rw [← e]; exact hi)))).trans (h.block i hi hs)⟩
theorem Chg.setBlock (h : Chg S a w) {r : Nat} (hr : r < a.heap.size → S r) (o : Obj) : Chg S a (setBlock w r o) :=
  ⟨h.os, h.tape, h.output, by simpa [ChangeMaps.setBlock] using h.size, fun i hi hs => by
    have hne : r ≠ i := fun e => hs (by rw [← e]; exact hr (by rw [e]; exact hi))
    show (w.heap.setIfInBounds r o)[i]? = _
    rw [Array.getElem?_setIfInBounds_ne hne]
    exact h.block i hi hs⟩
theorem Chg.below (h : Chg S w w') {B : Nat} (hB : B ≤ w.heap.size) (hS : ∀ i, S i → B ≤ i) : Below B w w' :=
  ⟨h.os, h.tape, h.output, h.size, fun k hk => h.block k (by omega) (fun hs => by have := hS k hs; omega)⟩
theorem Chg.toBelow (h : Chg (fun _ => False) w w') : Below w.heap.size w w' := h.below (Nat.le_refl _) (fun _ hf => hf.elim)
theorem Chg.of_below {B : Nat} (h : Below B w w') (hB : ∀ i, i < w.heap.size → B ≤ i → S i) : Chg S w w' :=
  ⟨h.os, h.tape, h.output, h.size, fun k hk hs => h.block k (by rcases Nat.lt_or_ge k B with h1 | h1; exact h1; exact (hs (hB k hk h1)).elim)⟩
theorem Chg.ofBelow (h : Below w.heap.size w w') (S : Nat → Prop) : Chg S w w' := .of_below h (fun i hi hB => by omega)
theorem Chg.ofGrown {row : Option Nat} (h : w.grownBy w' row) (hr : ∀ g, row = some g → g < w.heap.size → S g) : Chg S w w' :=
  ⟨h.os, h.tape, h.output, h.size, fun k hk hs => h.block k hk (fun e => hs (hr k e.symm hk))⟩
theorem Chg.cell (h : Chg S w w') {p : Addr} (hp : p.block < w.heap.size) (hs : ¬ S p.block) : w'.cell? p = w.cell? p := World.cell?_of_block (w := w) (h.block p.block hp hs)
theorem Chg.frozen (h : Chg S w w') {p : Addr} (hp : p.block < w.heap.size) (hs : ¬ S p.block) : w'.frozen? p = w.frozen? p := World.frozen?_of_block (w := w) (h.block p.block hp hs)
end

/-! ### a slice that reads as a list -/
theorem block_of_add (a : Addr) (n : Nat) : (a.add n).block = a.block := by unfold Addr.add; split <;> rfl
theorem add_of_add (a : Addr) (i j : Nat) : (a.add i).add j = a.add (i + j) := by
  unfold Addr.add
  by_cases hi : i = 0 <;> by_cases hj : j = 0 <;> simp [hi, hj, Nat.add_assoc]
theorem add_plain (b o j : Nat) : (⟨b, o, none⟩ : Addr).add j = ⟨b, o + j, none⟩ := by
  unfold Addr.add; split <;> simp_all

/-- The slice value with address A and length n reads as the values xs (size cells an element); its block satisfies K. -/
def Reads (w : World) (K : Nat → Prop) (size : Nat) (A : Option Addr) (n : Nat) (xs : List Value) : Prop :=
  xs.length = n * size ∧ (0 < n → ∃ ad, A = some ad ∧ K ad.block ∧ ad.block < w.heap.size ∧ ∀ j u, xs[j]? = some u → w.cell? (ad.add j) = some u)

section
variable {w w' : World} {K : Nat → Prop} {size n : Nat} {A : Option Addr} {xs : List Value}
theorem Reads.none_ : Reads w K size A 0 [] := ⟨by simp, fun h => absurd h (by omega)⟩
theorem Reads.at_ {k : Nat} (h : Reads w K 1 A n xs) (hk : k < n) : ∃ ad u, A = some ad ∧ ad.block < w.heap.size ∧ xs[k]? = some u ∧ w.cell? (ad.add k) = some u := by
  obtain ⟨ad, e, _, hb, hc⟩ := h.2 (by omega)
  have hl : k < xs.length := by have := h.1; omega
  exact ⟨ad, xs[k], e, hb, List.getElem?_eq_getElem hl, hc k _ (List.getElem?_eq_getElem hl)⟩
theorem Reads.keep (h : Reads w K size A n xs) (hs : w.heap.size ≤ w'.heap.size) (hk : ∀ p : Addr, p.block < w.heap.size → K p.block → w'.cell? p = w.cell? p) : Reads w' K size A n xs :=
  ⟨h.1, fun hn => by
    obtain ⟨ad, e, hb, hl, hc⟩ := h.2 hn
    exact ⟨ad, e, hb, Nat.lt_of_lt_of_le hl hs, fun j u hu => (hk _ (by rw [block_of_add]; exact hl) (by rw [block_of_add]; exact hb)).trans (hc j u hu)⟩⟩
theorem Reads.more {K' : Nat → Prop} (h : Reads w K size A n xs) (hB : ∀ i, i < w.heap.size → K i → K' i) : Reads w K' size A n xs :=
  ⟨h.1, fun hn => by
    obtain ⟨ad, e, hb, hl, hc⟩ := h.2 hn
    exact ⟨ad, e, hB _ hl hb, hl, hc⟩⟩
theorem Reads.chg {S : Nat → Prop} (h : Reads w K size A n xs) (hc : Chg S w w') (hK : ∀ i, i < w.heap.size → K i → ¬ S i) : Reads w' K size A n xs :=
  h.keep hc.size (fun _ hp hk => hc.cell hp (hK _ hp hk))
theorem Reads.below (h : Reads w K size A n xs) (hb : Below w.heap.size w w') : Reads w' K size A n xs := h.keep hb.size (fun _ hp _ => hb.cell hp)
theorem Reads.drewN (h : Reads w K size A n xs) (k : Nat) : Reads (w.drewN k) K size A n xs := h
theorem Reads.of_own {base : Nat} {e : TypeId} {c : Nat} (h : w.ownsRow base e size (.slice A n c) n xs) : Reads w (fun i => base ≤ i) size A n xs := by
  refine ⟨h.1, fun hn => ?_⟩
  obtain ⟨g, cap, hv, hb, hlt⟩ := h.form hn
  have hA : A = some ⟨g, 0, none⟩ := by injection hv
  subst hA
  exact ⟨_, rfl, hb, hlt, h.cells (g := g) rfl⟩
end

/-! ### a block that is known whole -/
def Blk (w : World) (g : Nat) (t : TypeId) (cs : Array Value) : Prop := w.heap[g]? = some (.cells cs t (0, 0))

section
variable {w w' : World} {g : Nat} {t : TypeId} {cs : Array Value}
theorem Blk.lt (h : Blk w g t cs) : g < w.heap.size := by
  rcases Nat.lt_or_ge g w.heap.size with hlt | hge
  · exact hlt
  · unfold Blk at h; rw [Array.getElem?_eq_none hge] at h; cases h
theorem Blk.cell (h : Blk w g t cs) (i : Nat) : w.cell? ⟨g, i, none⟩ = cs[i]? := cell_of_row w g i cs t (0, 0) h
theorem Blk.frozen (h : Blk w g t cs) (i : Nat) : w.frozen? ⟨g, i, none⟩ = false := by
  unfold Blk at h
  simp [World.frozen?, h]
theorem Blk.new (w : World) (t : TypeId) (cs : Array Value) : Blk (w.alloc (.cells cs t)) w.heap.size t cs := heap_alloc_new w _
theorem Blk.new_ (w : World) (t : TypeId) (cs : Array Value) {n : Nat} (hn : w.heap.size = n) : Blk (w.alloc (.cells cs t)) n t cs := by subst hn; exact heap_alloc_new w _
theorem Blk.drew (h : Blk w g t cs) : Blk w.drew g t cs := h
theorem Blk.drewN (h : Blk w g t cs) (n : Nat) : Blk (w.drewN n) g t cs := h
theorem Blk.alloc (h : Blk w g t cs) (o : Obj) : Blk (w.alloc o) g t cs := (Below.heap_alloc w o g h.lt).trans h
theorem Blk.set_ (h : Blk w g t cs) (i : Nat) (u : Value) : Blk (w.setCell ⟨g, i, none⟩ u) g t (cs.setIfInBounds i u) := by
  unfold Blk at h ⊢
  simp [World.setCell, Array.getElem?_modify, h]
theorem Blk.far (h : Blk w g t cs) {p : Addr} (hp : g ≠ p.block) (u : Value) : Blk (w.setCell p u) g t cs := (Below.heap_setCell w p u g hp).trans h
theorem Blk.chg {S : Nat → Prop} (h : Blk w g t cs) (hc : Chg S w w') (hg : ¬ S g) : Blk w' g t cs := (hc.block g h.lt hg).trans h
theorem Blk.below {B : Nat} (h : Blk w g t cs) (hb : Below B w w') (hg : g < B) : Blk w' g t cs := (hb.block g hg).trans h
theorem Blk.ne_ {g' : Nat} {t' : TypeId} {cs' : Array Value} (h : Blk w g t cs) (h' : Blk w g' t' cs') (hne : t ≠ t') : g ≠ g' := by
  rintro rfl
  unfold Blk at h h'
  rw [h] at h'
  injection h' with h'
  injection h' with _ ht
  exact hne ht
end

/-! ### a map of int keys -/

/-- Block b is a map whose entries, in their order of birth, are L. -/
def IMap (w : World) (b : Nat) (L : List (Int × Value)) : Prop :=
  ∃ es clock, w.heap[b]? = some (.map es clock) ∧ es.toList.map (fun e => (e.key, e.val)) = L.map (fun p => (Value.int .i64 p.1, p.2)) ∧ (L.map (·.1)).Nodup ∧ (∀ x ∈ es.toList, x.born < clock) ∧ (es.toList.map (·.born)).Nodup

/-- The list behind a store. -/
def iput (L : List (Int × Value)) (x : Int) (v : Value) : List (Int × Value) := if x ∈ L.map (·.1) then L.map (fun p => if p.1 = x then (x, v) else p) else L ++ [(x, v)]

section
variable {P : Program} {w w' : World} {b : Nat} {L : List (Int × Value)}
theorem IMap.lt (h : IMap w b L) : b < w.heap.size := by
  obtain ⟨es, clock, hb, _⟩ := h
  exact (Array.getElem?_eq_some_iff.1 hb).1
theorem IMap.of_block (h : IMap w b L) (hb : w'.heap[b]? = w.heap[b]?) : IMap w' b L := by
  obtain ⟨es, clock, h0, r⟩ := h
  exact ⟨es, clock, hb.trans h0, r⟩
theorem IMap.chg {S : Nat → Prop} (h : IMap w b L) (hc : Chg S w w') (hg : ¬ S b) : IMap w' b L := h.of_block (hc.block b h.lt hg)
theorem IMap.new (w : World) : IMap (w.alloc (.map #[] 0)) w.heap.size [] := ⟨#[], 0, (MapKept.heap_alloc w _).1, by simp⟩

theorem IMap.keys {es : Array MapEntry} (h : es.toList.map (fun e => (e.key, e.val)) = L.map (fun p => (Value.int .i64 p.1, p.2))) : ∀ x ∈ es.toList, MapKept.IsKey (.int .i64) x.key := by
  intro x hx
  have : (x.key, x.val) ∈ L.map (fun p => (Value.int .i64 p.1, p.2)) := by rw [← h]; exact List.mem_map.2 ⟨x, hx, rfl⟩
  obtain ⟨p, _, hp⟩ := List.mem_map.1 this
  have : x.key = .int .i64 p.1 := (congrArg Prod.fst hp).symm
  rw [this]; rfl

theorem IMap.at_ {es : Array MapEntry} (h : es.toList.map (fun e => (e.key, e.val)) = L.map (fun p => (Value.int .i64 p.1, p.2))) {j : Nat} {e : MapEntry} (hj : es.toList[j]? = some e) :
    ∃ p, L[j]? = some p ∧ e.key = .int .i64 p.1 ∧ e.val = p.2 := by
  have h1 : (es.toList.map (fun e => (e.key, e.val)))[j]? = some (e.key, e.val) := by rw [List.getElem?_map, hj]; rfl
  rw [h, List.getElem?_map] at h1
  cases hp : L[j]? with
  | none => rw [hp] at h1; cases h1
  | some p =>
    rw [hp] at h1
    have : (Value.int .i64 p.1, p.2) = (e.key, e.val) := by simpa using h1
    exact ⟨p, rfl, (congrArg Prod.fst this).symm, (congrArg Prod.snd this).symm⟩

theorem lookup_of_get : ∀ {L : List (Int × Value)} {j : Nat} {p : Int × Value}, (L.map (·.1)).Nodup → L[j]? = some p → L.lookup p.1 = some p.2
  | [], _, _, _, h => by simp at h
  | q :: L, 0, p, _, h => by
    have : q = p := by simpa using h
    subst this
    simp [List.lookup]
  | q :: L, j + 1, p, hn, h => by
    have hn' := List.nodup_cons.1 hn
    have hp : L[j]? = some p := by simpa using h
    have hne : (p.1 == q.1) = false := by
      rw [beq_eq_false_iff_ne]
      intro e
      exact hn'.1 (List.mem_map.2 ⟨p, List.mem_of_getElem? hp, e⟩)
    simp only [List.lookup, hne]
    exact lookup_of_get hn'.2 hp

theorem lookup_none_of {L : List (Int × Value)} {x : Int} (h : x ∉ L.map (·.1)) : L.lookup x = none := by
  induction L with
  | nil => rfl
  | cons q L ih =>
    have hne : (x == q.1) = false := by
      rw [beq_eq_false_iff_ne]
      intro e
      exact h (by simp [e])
    simp only [List.lookup, hne]
    exact ih (fun hx => h (by simp at hx ⊢; exact Or.inr hx))

theorem IMap.find {es : Array MapEntry} (h : es.toList.map (fun e => (e.key, e.val)) = L.map (fun p => (Value.int .i64 p.1, p.2))) (hn : (L.map (·.1)).Nodup) (x : Int) :
    (Instr.findNow (.int .i64) (.int .i64 x) es.toList 0 = some none ∧ x ∉ L.map (·.1) ∧ L.lookup x = none) ∨
    ∃ j v, Instr.findNow (.int .i64) (.int .i64 x) es.toList 0 = some (some (j, v)) ∧ L[j]? = some (x, v) ∧ L.lookup x = some v ∧ ∃ e, es[j]? = some e ∧ e.key = .int .i64 x ∧ e.val = v := by
  rcases MapKept.findNow_spec (d := .int .i64) (k := .int .i64 x) rfl es.toList 0 (IMap.keys h) with ⟨h1, h2⟩ | ⟨j, e, h1, h2, h3⟩
  · left
    have hx : x ∉ L.map (·.1) := by
      intro hm
      obtain ⟨p, hp, hpx⟩ := List.mem_map.1 hm
      have : (Value.int .i64 p.1, p.2) ∈ es.toList.map (fun e => (e.key, e.val)) := by rw [h]; exact List.mem_map.2 ⟨p, hp, rfl⟩
      obtain ⟨e, he, hep⟩ := List.mem_map.1 this
      have hk : e.key = .int .i64 p.1 := congrArg Prod.fst hep
      exact h2 e he (by rw [hk, hpx])
    exact ⟨h1, hx, lookup_none_of hx⟩
  · right
    obtain ⟨p, hp, hk, hv⟩ := IMap.at_ h h2
    have hpx : p.1 = x := by rw [hk] at h3; injection h3
    have hp' : L[j]? = some (x, e.val) := by rw [hp, hv, ← hpx]
    refine ⟨j, e.val, by simpa using h1, hp', ?_, e, by simpa using h2, h3, rfl⟩
    have := lookup_of_get hn hp'
    simpa using this

theorem nodup_at {α : Type} {l : List α} (hn : l.Nodup) {i j : Nat} {a : α} (h1 : l[i]? = some a) (h2 : l[j]? = some a) : i = j := by
  obtain ⟨l1, b1⟩ := List.getElem?_eq_some_iff.1 h1
  obtain ⟨l2, b2⟩ := List.getElem?_eq_some_iff.1 h2
  have hp := List.pairwise_iff_getElem.1 hn
  rcases Nat.lt_trichotomy i j with h | h | h
  · exact (hp i j l1 l2 h (b1.trans b2.symm)).elim
  · exact h
  · exact (hp j i l2 l1 h (b2.trans b1.symm)).elim

/-- 'm[x]' and 'v, ok := m[x]'. -/
theorem IMap.look {t kt et : TypeId} {z : Value} (h : IMap w b L) (ht : P.underlying t = some (.map kt et)) (hk : P.underlying kt = some (.int .i64)) (hz : (zeroValue et).run P w = .ok z w) (x : Int) (ok : Bool) :
    (Instr.lookup t (.map (some b)) (.int .i64 x) ok).run P w = .ok (if ok then .tuple #[(L.lookup x).getD z, .bool (L.lookup x).isSome] else (L.lookup x).getD z) w := by
  obtain ⟨es, clock, hb, he, hn, _⟩ := h
  have hchk := fun em => MapKept.run_checkKey (P := P) (w := w) (k := .int .i64 x) hk (show MapKept.IsKey (.int .i64) (.int .i64 x) from rfl) em 9999
  rcases IMap.find he hn x with ⟨h1, _, h3⟩ | ⟨j, v, h1, _, h3, _⟩
  · simp [Instr.lookup, run_underlying ht, MapKept.run_getObj_map hb, hchk, MapKept.run_findKey hk h1, Result.andThen, hz, h3]
  · simp [Instr.lookup, run_underlying ht, MapKept.run_getObj_map hb, hchk, MapKept.run_findKey hk h1, Result.andThen, h3]

theorem IMap.put {t kt et : TypeId} (h : IMap w b L) (ht : P.underlying t = some (.map kt et)) (hk : P.underlying kt = some (.int .i64)) (x : Int) (v : Value) :
    ∃ o, (∀ n, (Instr.mapUpdate t (.map (some b)) (.int .i64 x) v).run P (w.drewN n) = .ok () (setBlock (w.drewN n) b o)) ∧ ∀ w', w'.heap[b]? = some o → IMap w' b (iput L x v) := by
  obtain ⟨es, clock, hb, he, hn, hlt, hbn⟩ := h
  have hbN : ∀ n, (w.drewN n).heap[b]? = some (.map es clock) := fun _ => hb
  have hchk := fun (W : World) => MapKept.run_checkKey (P := P) (w := W) (k := .int .i64 x) hk (show MapKept.IsKey (.int .i64) (.int .i64 x) from rfl) false 9999
  rcases IMap.find he hn x with ⟨h1, h2, _⟩ | ⟨j, v0, h1, h2, _, e, hj, hek, hev⟩
  · refine ⟨.map (es.push { key := .int .i64 x, val := v, born := clock }) (clock + 1), fun n => ?_, fun w' hw => ⟨_, _, hw, ?_, ?_, ?_, ?_⟩⟩
    · simp [Instr.mapUpdate, run_underlying ht, MapKept.run_getObj_map (hbN n), hchk, MapKept.run_findKey hk h1, MapKept.run_setObj_map _ (hbN n), Result.andThen, setBlock]
    · rw [iput, if_neg h2, Array.toList_push, List.map_append, he, List.map_append]
      rfl
    · rw [iput, if_neg h2, List.map_append, List.nodup_append]
      refine ⟨hn, by simp, ?_⟩
      intro p hp q hq hpq
      have : q = x := by simpa using hq
      exact h2 (by rw [← this, ← hpq]; exact hp)
    · intro y hy
      rw [Array.toList_push] at hy
      rcases List.mem_append.1 hy with hy | hy
      · have := hlt y hy; omega
      · have : y.born = clock := by rw [List.mem_singleton.1 hy]
        omega
    · rw [Array.toList_push, List.map_append, List.nodup_append]
      refine ⟨hbn, by simp, ?_⟩
      intro p hp q hq hpq
      obtain ⟨y, hy, hyp⟩ := List.mem_map.1 hp
      have h5 : q = clock := by simpa using hq
      have := hlt y hy
      omega
  · have hxL : x ∈ L.map (·.1) := List.mem_map.2 ⟨(x, v0), List.mem_of_getElem? h2, rfl⟩
    refine ⟨.map (es.modify j fun e => { e with key := .int .i64 x, val := v }) clock, fun n => ?_, fun w' hw => ⟨_, _, hw, ?_, ?_, ?_, ?_⟩⟩
    · have hst := fun (W : World) => MapKept.run_keyThatStays (P := P) (w := W) (d := .int .i64) (k := .int .i64 x) rfl
      simp [Instr.mapUpdate, run_underlying ht, MapKept.run_getObj_map (hbN n), hchk, MapKept.run_findKey hk h1, hj, hek, hst, MapKept.run_setObj_map _ (hbN n), Result.andThen, setBlock]
    · rw [iput, if_pos hxL]
      apply List.ext_getElem?
      intro i
      have hi : (es.toList.map (fun e => (e.key, e.val)))[i]? = (L.map (fun p => (Value.int .i64 p.1, p.2)))[i]? := by rw [he]
      simp only [List.getElem?_map, Array.getElem?_toList, Array.getElem?_modify] at hi ⊢
      by_cases hij : j = i
      · subst hij
        rw [hj, h2] at *
        simp
      · simp only [hij, if_false]
        rw [hi]
        cases hq : L[i]? with
        | none => rfl
        | some q =>
          have hne : q.1 ≠ x := by
            intro e1
            have a1 : (L.map (·.1))[i]? = some x := by rw [List.getElem?_map, hq]; simp [e1]
            have a2 : (L.map (·.1))[j]? = some x := by rw [List.getElem?_map, h2]; rfl
            exact hij (nodup_at hn a2 a1)
          simp [hne]
    · rw [iput, if_pos hxL, List.map_map]
      have : ((fun p : Int × Value => p.1) ∘ fun p => if p.1 = x then (x, v) else p) = (fun p => p.1) := by
        funext p
        simp only [Function.comp]
        split
        · rename_i h5; exact h5.symm
        · rfl
      rw [this]; exact hn
    · intro y hy
      have hb' : (es.modify j fun e => { e with key := .int .i64 x, val := v }).toList.map (·.born) = es.toList.map (·.born) := by
        apply List.ext_getElem?
        intro i
        simp only [List.getElem?_map, Array.getElem?_toList, Array.getElem?_modify]
        by_cases hij : j = i
        · subst hij; rw [hj]; simp
        · simp [hij]
      have : y.born ∈ es.toList.map (·.born) := by rw [← hb']; exact List.mem_map.2 ⟨y, hy, rfl⟩
      obtain ⟨z, hz, hzb⟩ := List.mem_map.1 this
      rw [← hzb]; exact hlt z hz
    · have hb' : (es.modify j fun e => { e with key := .int .i64 x, val := v }).toList.map (·.born) = es.toList.map (·.born) := by
        apply List.ext_getElem?
        intro i
        simp only [List.getElem?_map, Array.getElem?_toList, Array.getElem?_modify]
        by_cases hij : j = i
        · subst hij; rw [hj]; simp
        · simp [hij]
      rw [hb']; exact hbn
end
theorem mem_iput {L : List (Int × Value)} {x y : Int} {v : Value} : y ∈ (iput L x v).map (·.1) ↔ y = x ∨ y ∈ L.map (·.1) := by
  unfold iput
  split
  · rename_i h
    have : ((fun p : Int × Value => p.1) ∘ fun p => if p.1 = x then (x, v) else p) = (fun p => p.1) := by
      funext p
      simp only [Function.comp]
      split
      · rename_i h5; exact h5.symm
      · rfl
    rw [List.map_map, this]
    exact ⟨Or.inr, fun h' => h'.elim (fun e => e ▸ h) id⟩
  · rw [List.map_append, List.mem_append]
    simp [or_comm]

theorem lookup_map_set {L : List (Int × Value)} {x y : Int} {v : Value} : (L.map (fun p => if p.1 = x then (x, v) else p)).lookup y = if y = x then (if x ∈ L.map (·.1) then some v else none) else L.lookup y := by
  induction L with
  | nil => simp
  | cons q L ih =>
    obtain ⟨a, b⟩ := q
    simp only [List.map_cons, List.mem_cons]
    by_cases hax : a = x
    · subst hax
      simp only [if_pos]
      by_cases hya : y = a
      · subst hya; simp [List.lookup]
      · have h1 : (y == a) = false := beq_eq_false_iff_ne.2 hya
        simp only [List.lookup, h1, if_neg hya, ih]
    · simp only [if_neg hax]
      by_cases hya : y = a
      · subst hya; simp [List.lookup, hax]
      · have h1 : (y == a) = false := beq_eq_false_iff_ne.2 hya
        simp only [List.lookup, h1, ih]
        by_cases hyx : y = x
        · simp only [if_pos hyx, Ne.symm hax, false_or]
        · simp only [if_neg hyx]

theorem lookup_append_one {L : List (Int × Value)} {x y : Int} {v : Value} (h : x ∉ L.map (·.1)) : (L ++ [(x, v)]).lookup y = if y = x then some v else L.lookup y := by
  induction L with
  | nil => simp [List.lookup]; split <;> simp_all
  | cons q L ih =>
    obtain ⟨a, b⟩ := q
    have hxa : x ≠ a := fun e => h (by simp [e])
    have h2 : x ∉ L.map (·.1) := fun hx => h (by simp at hx ⊢; exact Or.inr hx)
    simp only [List.cons_append, List.lookup]
    by_cases hya : y = a
    · subst hya; simp [Ne.symm hxa]
    · have h1 : (y == a) = false := beq_eq_false_iff_ne.2 hya
      simp only [h1, ih h2]

theorem lookup_iput {L : List (Int × Value)} {x y : Int} {v : Value} : (iput L x v).lookup y = if y = x then some v else L.lookup y := by
  unfold iput
  split
  · rename_i h; rw [lookup_map_set, if_pos h]
  · rename_i h; exact lookup_append_one h

theorem own_base {w : World} {base base' : Nat} {e : TypeId} {size n : Nat} {v : Value} {xs : List Value} (h : w.ownsRow base e size v n xs) (hb : base' ≤ base) : w.ownsRow base' e size v n xs := by
  obtain ⟨hl, h2⟩ := h
  refine ⟨hl, ?_⟩
  rcases h2 with h2 | ⟨g, cap, cur, hv, hg, r⟩
  · exact .inl h2
  · exact .inr ⟨g, cap, cur, hv, Nat.le_trans hb hg, r⟩
theorem own_reads {w : World} {base : Nat} {e : TypeId} {size n : Nat} {v : Value} {xs : List Value} (h : w.ownsRow base e size v n xs) :
    ∃ A c, v = .slice A n c ∧ Reads w (fun i => base ≤ i) size A n xs := by
  obtain ⟨hl, h2⟩ := id h
  rcases h2 with ⟨rfl, rfl⟩ | ⟨g, cap, cur, rfl, _⟩
  · exact ⟨none, 0, rfl, by simpa using hl, fun h => absurd h (by omega)⟩
  · exact ⟨_, _, rfl, Reads.of_own h⟩

theorem map_take_succ {α β : Type} (f : α → β) {xs : List α} {j : Nat} {x d : α} (hx : x = xs.getD j d) (h : j < xs.length) : (xs.take (j + 1)).map f = (xs.take j).map f ++ [f x] := by
  rw [List.take_succ_eq_append_getElem h, List.map_append, hx, List.getD_eq_getElem?_getD, List.getElem?_eq_getElem h]
  rfl
theorem take_succ_getD {α : Type} {xs : List α} {j : Nat} {x d : α} (hx : x = xs.getD j d) (h : j < xs.length) : xs.take (j + 1) = xs.take j ++ [x] := by
  rw [List.take_succ_eq_append_getElem h, hx, List.getD_eq_getElem?_getD, List.getElem?_eq_getElem h]
  rfl
theorem getD_mem {α : Type} {xs : List α} {j : Nat} {x d : α} (hx : x = xs.getD j d) (h : j < xs.length) : x ∈ xs := by
  rw [hx, List.getD_eq_getElem?_getD, List.getElem?_eq_getElem h]
  exact List.getElem_mem _

/-- 'append(v, x)', one element of one cell onto a slice of the call's own: what the old value owned it owns still, and where the new one lies. -/
theorem run_append1 {P : Program} (w : World) (base : Nat) (t ty e : TypeId) (i : TypeInfo) (z : Value) (bytes : Nat) (ht : P.underlying t = some (.slice e)) (hi : P.info? e = some i) (hz : i.zero = some z) (hs : i.size = 1) (hby : i.bytes = bytes) (hzs : z.cells.size = 1)
    (v : Value) (n : Nat) (xs : List Value) (hown : w.ownsRow base e 1 v n xs) (ad : Addr) (c : Nat) (x : Value) (hx : w.cell? ad = some x) (h1 : x.oneCell' = true) (h63 : n + 1 ≤ maxLen) (hb : (n + 1) * bytes ≤ 140737488355328) (hbase : base ≤ w.heap.size) :
    ∃ v' w', (Builtin.append_ #[t, t] ty #[v, .slice (some ad) 1 c]).run P w = .ok v' w' ∧ w'.ownsRow base e 1 v' (n + 1) (xs ++ [x]) ∧ w'.ownsRow base e 1 v n xs ∧ w.grownBy w' v.ownBlock ∧ (v'.ownBlock = v.ownBlock ∨ v'.ownBlock = some w.heap.size) := by
  have hsmall : n + 1 ≤ 9223372036854775807 := by simp only [maxLen] at h63; omega
  have hl : [x].length = 1 * i.size := by rw [hs]; rfl
  have hnews : ∀ j u, [x][j]? = some u → w.cell? (ad.add j) = some u := by
    intro j u hj
    match j with
    | 0 => simp at hj; subst hj; simpa [Addr.add] using hx
    | j + 1 => simp at hj
  have h1' : ∀ u ∈ [x], u.oneCell' = true := fun u hu => by rw [List.mem_singleton.1 hu]; exact h1
  have hxl := hown.1
  have fresh : ∀ old : Nat, (w.drew.alloc (.cells (xs.toArray ++ #[x] ++ Builtin.zeroCells z.cells (grownCap w (n + 1) old e - (n + 1))) e)).ownsRow base e 1 (.slice (some ⟨w.heap.size, 0, none⟩) (n + 1) (grownCap w (n + 1) old e)) (n + 1) (xs ++ [x]) := by
    intro old
    have hge := grownCap_ge w (n + 1) old e
    refine ⟨by simp; omega, .inr ⟨w.heap.size, _, _, rfl, hbase, heap_alloc_new w.drew _, hge, grownCap_le_maxLen w (n + 1) old e h63, ?_, ?_⟩⟩
    · simp only [Array.size_append, List.size_toArray, size_zeroCells, hzs]
      simp; omega
    · have e1 : (xs.toArray ++ #[x] ++ Builtin.zeroCells z.cells (grownCap w (n + 1) old e - (n + 1))).toList = (xs ++ [x]) ++ (Builtin.zeroCells z.cells (grownCap w (n + 1) old e - (n + 1))).toList := by simp
      rw [e1]
      exact List.take_left' (by simp; omega)
  have hkeep : ∀ o : Obj, (w.drew.alloc o).ownsRow base e 1 v n xs := fun o => World.ownsRow.alloc (w := w.drew) hown o
  rcases hown.2 with ⟨rfl, rfl⟩ | ⟨g, cap, cur, rfl, hbg, hg, hnc, hcm, hcs, htake⟩
  · have hxs : xs = [] := List.eq_nil_of_length_eq_zero (by simpa using hxl)
    subst hxs
    have hr := run_append_nil (P := P) w t ty e i z ht hi hz ad 1 c [x] hl hnews (by omega) (by omega) (by rw [hby]; omega)
    have hf := fresh 0
    simp only [Nat.zero_add, List.nil_append, Array.empty_append] at hf ⊢
    exact ⟨_, _, hr, hf, World.ownsRow_nil _ base e 1, ⟨rfl, rfl, rfl, by simp, fun k hk _ => Below.heap_alloc w.drew _ k hk⟩, Or.inr rfl⟩
  · by_cases hroom : n + 1 ≤ cap
    · have hr := run_append_room (P := P) w t ty e i ht hi g n cap cur hg ad 1 c [x] hl hnews h1' hroom (by rw [hs]; simp; omega)
      rw [hs] at hr
      simp only [Nat.mul_one] at hr htake hcs
      have hsz : (cur.toList.take n ++ [x] ++ cur.toList.drop (n + [x].length)).length = cap := by simp; omega
      refine ⟨_, _, hr, ⟨by simp; omega, .inr ⟨g, cap, _, rfl, hbg, setRow_heap w g cur _ e _ hg, hroom, hcm, by rw [List.size_toArray, hsz]; omega, ?_⟩⟩,
        ⟨by omega, .inr ⟨g, cap, _, rfl, hbg, setRow_heap w g cur _ e _ hg, by omega, hcm, by rw [List.size_toArray, hsz]; omega, ?_⟩⟩, ⟨rfl, rfl, rfl, by simp [World.setRow], fun k hk hne => setRow_other w g k _ (fun e => hne (by simp [Value.ownBlock, e]))⟩, Or.inl rfl⟩
      · rw [htake]
        exact List.take_left' (by simp; omega)
      · rw [htake]
        have hx1 : xs.length = n := by omega
        simp [hx1]
    · have hr := run_append_grow (P := P) w t ty e i z ht hi hz ⟨g, 0, none⟩ n cap xs (by rw [hs]; exact hxl) (hown.cells (g := g) rfl) ad 1 c [x] hl hnews (by omega) (by omega) (growslice_fits (by omega) (by rw [hby]; exact hb))
      exact ⟨_, _, hr, fresh cap, hkeep _, ⟨rfl, rfl, rfl, by simp, fun k hk _ => Below.heap_alloc w.drew _ k hk⟩, Or.inr rfl⟩

/-- .. as one step of a region that draws its order. -/
theorem step_append1 {P : Program} {w : World} {ops : Array Oper} {o : Oper} {a : Act} {K : Act → World → Prop} {Q : Exit → Act → World → Prop} {E : Prop} (hgd : o.guard = none) (s x : Operand) (t : TypeId)
    (ho : o.op = .call { callee := .builtin .append, args := #[s, x], argTypes := #[t, t] })
    (base : Nat) (e : TypeId) (i : TypeInfo) (z : Value) (bytes : Nat) (ht : P.underlying t = some (.slice e)) (hi : P.info? e = some i) (hz : i.zero = some z) (hs : i.size = 1) (hby : i.bytes = bytes) (hzs : z.cells.size = 1)
    (v : Value) (n : Nat) (xs : List Value) (hsv : a.eval s = v) (hown : w.ownsRow base e 1 v n xs) (ad : Addr) (c : Nat) (y : Value) (hxv : a.eval x = .slice (some ad) 1 c) (hx : w.cell? ad = some y) (h1 : y.oneCell' = true) (h63 : n + 1 ≤ maxLen) (hb : (n + 1) * bytes ≤ 140737488355328) (hbase : base ≤ w.heap.size)
    (h : ∀ g c' w', w'.ownsRow base e 1 (.slice (some ⟨g, 0, none⟩) (n + 1) c') (n + 1) (xs ++ [y]) → w'.ownsRow base e 1 v n xs → w.grownBy w' v.ownBlock → (v.ownBlock = some g ∨ g = w.heap.size) → g < w'.heap.size → K (a.put o.dst (.slice (some ⟨g, 0, none⟩) (n + 1) c')) w') :
    if Region.wanted o (yielded ops a.tmps) = true then Oper.wp P o a w K Q else E := by
  have hw : Region.wanted o (yielded ops a.tmps) = true := by simp [Region.wanted, hgd]
  rw [if_pos hw]
  obtain ⟨v', w', hr, h2, h3, h4, h5⟩ := run_append1 (P := P) w base t o.type e i z bytes ht hi hz hs hby hzs v n xs hown ad c y hx h1 h63 hb hbase
  obtain ⟨g, c', rfl, _, hlt⟩ := h2.form (by omega)
  unfold Oper.wp execOp
  simp only [ho, resolve, invoke, builtin, Sem.run_bind, Sem.run_pure, Result.andThen_ok, List.map_toArray, List.map_cons, List.map_nil, hsv, hxv, hr]
  exact h g c' w' h2 h3 h4 (h5.imp (fun e => e.symm) (fun e => by simpa [Value.ownBlock] using e)) hlt

/-- .. and in a plain region. -/
theorem wpList_append1 {P : Program} {w : World} {ops : Array Oper} {rest : List Oper} {o : Oper} {a : Act} {Q : Exit → Act → World → Prop} (hgd : o.guard = none) (s x : Operand) (t : TypeId)
    (ho : o.op = .call { callee := .builtin .append, args := #[s, x], argTypes := #[t, t] })
    (base : Nat) (e : TypeId) (i : TypeInfo) (z : Value) (bytes : Nat) (ht : P.underlying t = some (.slice e)) (hi : P.info? e = some i) (hz : i.zero = some z) (hs : i.size = 1) (hby : i.bytes = bytes) (hzs : z.cells.size = 1)
    (v : Value) (n : Nat) (xs : List Value) (hsv : a.eval s = v) (hown : w.ownsRow base e 1 v n xs) (ad : Addr) (c : Nat) (y : Value) (hxv : a.eval x = .slice (some ad) 1 c) (hx : w.cell? ad = some y) (h1 : y.oneCell' = true) (h63 : n + 1 ≤ maxLen) (hb : (n + 1) * bytes ≤ 140737488355328) (hbase : base ≤ w.heap.size)
    (h : ∀ g c' w', w'.ownsRow base e 1 (.slice (some ⟨g, 0, none⟩) (n + 1) c') (n + 1) (xs ++ [y]) → w'.ownsRow base e 1 v n xs → w.grownBy w' v.ownBlock → (v.ownBlock = some g ∨ g = w.heap.size) → g < w'.heap.size → wpList P ops Q rest (a.put o.dst (.slice (some ⟨g, 0, none⟩) (n + 1) c')) w') : wpList P ops Q (o :: rest) a w := by
  refine wpList_plain hgd fun K hK => ?_
  obtain ⟨v', w', hr, h2, h3, h4, h5⟩ := run_append1 (P := P) w base t o.type e i z bytes ht hi hz hs hby hzs v n xs hown ad c y hx h1 h63 hb hbase
  obtain ⟨g, c', rfl, _, hlt⟩ := h2.form (by omega)
  unfold Oper.wp execOp
  simp only [ho, resolve, invoke, builtin, Sem.run_bind, Sem.run_pure, Result.andThen_ok, List.map_toArray, List.map_cons, List.map_nil, hsv, hxv, hr]
  exact hK _ _ (h g c' w' h2 h3 h4 (h5.imp (fun e => e.symm) (fun e => by simpa [Value.ownBlock] using e)) hlt)

/-- Behind 'out = append(out, x)', out the call's own: old memory stands. -/
theorem own_append_below {B : Nat} {w0 wr w1 : World} {o : Obj} {base : Nat} {e : TypeId} {size n : Nat} {v : Value} {xs : List Value} (hown : wr.ownsRow base e size v n xs) (hbel : Below B w0 wr)
    (hgrow : (wr.alloc o).grownBy w1 v.ownBlock) (hB : B ≤ base) (hBs : B ≤ wr.heap.size) : Below B w0 w1 :=
  (hbel.alloc hBs o).grown hgrow (by simp; omega) (fun k hk => Nat.le_trans hB (hown.lt k hk).1)

theorem own_append_chg {S : Nat → Prop} {w0 wr w1 : World} {o : Obj} {base : Nat} {e : TypeId} {size n : Nat} {v : Value} {xs : List Value} (hown : wr.ownsRow base e size v n xs) (hc : Chg S w0 wr)
    (hgrow : (wr.alloc o).grownBy w1 v.ownBlock) (hS : ∀ i, base ≤ i → i < w0.heap.size → S i) : Chg S w0 w1 :=
  ⟨hgrow.os.trans hc.os, hgrow.tape.trans hc.tape, hgrow.output.trans hc.output, Nat.le_trans (hc.alloc o).size hgrow.size, fun k hk hs =>
    (hgrow.block k (Nat.lt_of_lt_of_le hk (hc.alloc o).size) (fun e => hs (hS k (hown.lt k e.symm).1 hk))).trans ((hc.alloc o).block k hk hs)⟩

abbrev ints (xs : List Int) : List Value := xs.map (Value.int .i64)

theorem ret_bool {a b : Bool} (h : a = b) : Ending.returned (.bool a) = .returned (.bool b) := by rw [h]
theorem ret_int {k : IntKind} {a b : Int} (h : a = b) : Ending.returned (.int k a) = .returned (.int k b) := by rw [h]

theorem ints_at {xs : List Int} {k : Nat} {u : Value} (h : (ints xs)[k]? = some u) : u = .int .i64 (xs.getD k 0) ∧ k < xs.length := by
  have hk : k < xs.length := by
    have := (List.getElem?_eq_some_iff.1 h).1
    simpa using this
  rw [List.getElem?_map, List.getElem?_eq_getElem hk] at h
  simp at h
  simp [hk, ← h]
end Go.Proofs.Ytaihafoopoaahaa
