/- spec.Maps: what it says. No condition. -/
import Derived.Test.YtammpllfmbmdmaaSp4
namespace Go.Proofs.Ytammpllfmbmdmaa
open Go.RowKit

def delS (l : List (Int × Int)) (k : Int) : List (Int × Int) := match findI l k with | some i => l.take i ++ l.drop (i + 1) | none => l

/-- A step on the list c beside the list o, as spec.Maps does it; false: it is left out. -/
def spC (c o : List (Int × Int)) (s : StepD) : Two × AnsD × Bool :=
  if s.what = 0 then ((putS c s.key s.value, o), zeroAns, true)
  else if s.what = 1 then ((c, o), (match c.lookup s.key with | some v => ⟨v, true, [], false⟩ | none => zeroAns), true)
  else if s.what = 2 then ((delS c s.key, o), zeroAns, true)
  else if s.what = 3 then ((c, o), ⟨(c.length : Int), false, [], false⟩, true)
  else if s.what = 4 then ((c, c), zeroAns, true)
  else if s.what = 5 then ((c, o), ⟨0, eqA c o, [], false⟩, true)
  else if s.what = 6 then ((o.foldl (fun l q => putS l q.1 q.2) c, o), zeroAns, true)
  else if s.what = 8 then ((c, o), ⟨0, false, keysL c, false⟩, true)
  else ((c, o), zeroAns, false)

def specM (x : Two) (s : StepD) : Two × AnsD × Bool :=
  if s.which = 0 then spC x.1 x.2 s
  else if s.which = 1 then (((spC x.2 x.1 s).1.2, (spC x.2 x.1 s).1.1), (spC x.2 x.1 s).2)
  else (x, zeroAns, true)

/-- Two lists of pairs in memory. -/
structure TwoIn (w : World) (K : Nat → Prop) (A0 A1 : Option Addr) (c0 c1 : Nat) (x : Two) : Prop where
  p0 : PairsIn w K A0 x.1.length c0 x.1
  p1 : PairsIn w K A1 x.2.length c1 x.2

theorem TwoIn.keep {w w' : World} {K : Nat → Prop} {A0 A1 : Option Addr} {c0 c1 : Nat} {x : Two} (h : TwoIn w K A0 A1 c0 c1 x) (hs : w.heap.size ≤ w'.heap.size) (hk : ∀ p : Addr, p.block < w.heap.size → K p.block → w'.cell? p = w.cell? p) : TwoIn w' K A0 A1 c0 c1 x := ⟨h.p0.keep hs hk, h.p1.keep hs hk⟩
theorem TwoIn.below {w w' : World} {K : Nat → Prop} {A0 A1 : Option Addr} {c0 c1 : Nat} {x : Two} (h : TwoIn w K A0 A1 c0 c1 x) (hb : Below w.heap.size w w') : TwoIn w' K A0 A1 c0 c1 x := ⟨h.p0.below hb, h.p1.below hb⟩
theorem TwoIn.old {w : World} {K : Nat → Prop} {A0 A1 : Option Addr} {c0 c1 : Nat} {x : Two} (h : TwoIn w K A0 A1 c0 c1 x) : TwoIn w (fun i => i < w.heap.size) A0 A1 c0 c1 x := ⟨h.p0.more (fun _ hi _ => hi), h.p1.more (fun _ hi _ => hi)⟩

/-- What spec.Maps hands back. -/
def SpecM (Kx : Nat → Prop) (r : Two × AnsD × Bool) (w : World) (e : Ending) (w' : World) : Prop :=
  ∃ A0 A1 c0 c1 RA rc, e = .returned (.tuple #[.agg #[.slice A0 r.1.1.length c0, .slice A1 r.1.2.length c1], .agg (r.2.1.cells (.slice RA r.2.1.list.length rc)), .bool r.2.2]) ∧
    TwoIn w' (fun i => Kx i ∨ w.heap.size ≤ i) A0 A1 c0 c1 r.1 ∧ SliceIs w' (Row3 w') RA r.2.1.list.length rc r.2.1.list ∧ Below w.heap.size w w'

/-- The variables of spec.Maps. -/
structure SpW (w W : World) (s0 s1 : Value) (cs : Array Value) : Prop where
  size : W.heap.size = w.heap.size + 4
  bel : Below w.heap.size w W
  m : Blk W w.heap.size 49 #[s0, s1]
  s : Blk W (w.heap.size + 1) 34 cs
  r0 : Blk W (w.heap.size + 2) 49 #[.slice none 0 0, .slice none 0 0]
  r1 : Blk W (w.heap.size + 3) 31 #[.int .i64 0, .bool false, .slice none 0 0, .bool false]

theorem spW (w : World) (s0 s1 : Value) (cs : Array Value) : SpW w ((((w.alloc (.cells #[s0, s1] 49)).alloc (.cells cs 34)).alloc (.cells #[.slice none 0 0, .slice none 0 0] 49)).alloc (.cells #[.int .i64 0, .bool false, .slice none 0 0, .bool false] 31)) s0 s1 cs :=
  ⟨by simp, ((((Below.refl _ _).alloc (Nat.le_refl _) _).alloc (by simp) _).alloc (by simp; omega) _).alloc (by simp; omega) _,
    (((Blk.new _ _ _).alloc _).alloc _).alloc _, ((Blk.new_ _ _ _ (by simp)).alloc _).alloc _, (Blk.new_ _ _ _ (by simp)).alloc _, Blk.new_ _ _ _ (by simp)⟩


theorem spZ (w : World) (s0 s1 a b p q r t : Value) (cs : Array Value) :
    Below w.heap.size w ((((w.alloc (.cells #[s0, s1] 49)).alloc (.cells cs 34)).alloc (.cells #[a, b] 49)).alloc (.cells #[p, q, r, t] 31)) ∧
    Blk ((((w.alloc (.cells #[s0, s1] 49)).alloc (.cells cs 34)).alloc (.cells #[a, b] 49)).alloc (.cells #[p, q, r, t] 31)) (w.heap.size + 1 + 1) 49 #[a, b] ∧
    Blk ((((w.alloc (.cells #[s0, s1] 49)).alloc (.cells cs 34)).alloc (.cells #[a, b] 49)).alloc (.cells #[p, q, r, t] 31)) (w.heap.size + 1 + 1 + 1) 31 #[p, q, r, t] :=
  ⟨((((Below.refl _ _).alloc (Nat.le_refl _) _).alloc (by simp) _).alloc (by simp; omega) _).alloc (by simp; omega) _, (Blk.new_ _ _ _ (by simp)).alloc _, Blk.new_ _ _ _ (by simp)⟩

/-- The results' variables behind the last two stores. -/
abbrev six (E : World) (g : Nat) (a b p q r t : Value) : World :=
  (((((E.setCell ⟨g + 1 + 1, 0, none⟩ a).setCell ⟨g + 1 + 1, 1, none⟩ b).setCell ⟨g + 1 + 1 + 1, 0, none⟩ p).setCell ⟨g + 1 + 1 + 1, 1, none⟩ q).setCell ⟨g + 1 + 1 + 1, 2, none⟩ r).setCell ⟨g + 1 + 1 + 1, 3, none⟩ t

theorem sp_six {E : World} {g : Nat} {x0 x1 y0 y1 y2 y3 : Value} (h0 : Blk E (g + 1 + 1) 49 #[x0, x1]) (h1 : Blk E (g + 1 + 1 + 1) 31 #[y0, y1, y2, y3]) (a b p q r t : Value) :
    Blk (six E g a b p q r t) (g + 1 + 1) 49 #[a, b] ∧ Blk (six E g a b p q r t) (g + 1 + 1 + 1) 31 #[p, q, r, t] ∧ Chg (fun i => i = g + 1 + 1 ∨ i = g + 1 + 1 + 1) E (six E g a b p q r t) := by
  have hne : g + 1 + 1 ≠ g + 1 + 1 + 1 := by omega
  refine ⟨?_, ?_, ?_⟩
  · have e0 : Blk ((E.setCell ⟨g + 1 + 1, 0, none⟩ a).setCell ⟨g + 1 + 1, 1, none⟩ b) (g + 1 + 1) 49 #[a, b] := (h0.set_ 0 a).set_ 1 b
    exact (((e0.far (p := ⟨g + 1 + 1 + 1, 0, none⟩) hne _).far (p := ⟨g + 1 + 1 + 1, 1, none⟩) hne _).far (p := ⟨g + 1 + 1 + 1, 2, none⟩) hne _).far (p := ⟨g + 1 + 1 + 1, 3, none⟩) hne _
  · have e1 : Blk ((E.setCell ⟨g + 1 + 1, 0, none⟩ a).setCell ⟨g + 1 + 1, 1, none⟩ b) (g + 1 + 1 + 1) 31 #[y0, y1, y2, y3] := (h1.far (p := ⟨g + 1 + 1, 0, none⟩) hne.symm _).far (p := ⟨g + 1 + 1, 1, none⟩) hne.symm _
    exact (((e1.set_ 0 p).set_ 1 q).set_ 2 r).set_ 3 t
  · exact ((((((Chg.refl (fun i => i = g + 1 + 1 ∨ i = g + 1 + 1 + 1) E).setCell (p := ⟨g + 1 + 1, 0, none⟩) (fun _ => Or.inl rfl) a).setCell (p := ⟨g + 1 + 1, 1, none⟩) (fun _ => Or.inl rfl) b).setCell (p := ⟨g + 1 + 1 + 1, 0, none⟩) (fun _ => Or.inr rfl) p).setCell (p := ⟨g + 1 + 1 + 1, 1, none⟩) (fun _ => Or.inr rfl) q).setCell (p := ⟨g + 1 + 1 + 1, 2, none⟩) (fun _ => Or.inr rfl) r).setCell (p := ⟨g + 1 + 1 + 1, 3, none⟩) (fun _ => Or.inr rfl) t

/-- Blocks of Kx that lie below. -/
def Lo (Kx : Nat → Prop) (g : Nat) (i : Nat) : Prop := Kx i ∧ i < g
/-- Blocks that the results' variables are not. -/
def NotR (Kx : Nat → Prop) (g : Nat) (i : Nat) : Prop := (Kx i ∧ i < g) ∨ g + 4 ≤ i
theorem NotR.ne0 {Kx : Nat → Prop} {g i : Nat} (h : NotR Kx g i) : i ≠ g + 1 + 1 := by rcases h with h | h <;> omega
theorem NotR.ne1 {Kx : Nat → Prop} {g i : Nat} (h : NotR Kx g i) : i ≠ g + 1 + 1 + 1 := by rcases h with h | h <;> omega

theorem sp_fin {Kx : Nat → Prop} {w E W' : World} {x : Two} {ans : AnsD} {okb : Bool} {r : Two × AnsD × Bool} {A0 A1 RA : Option Addr} {c0 c1 rc n : Nat} {cs0 cs1 : Array Value} (hr : r = (x, ans, okb)) (hq0 : Blk E (w.heap.size + 1 + 1) 49 cs0) (hq1 : Blk E (w.heap.size + 1 + 1 + 1) 31 cs1) (ht : TwoIn E (NotR Kx w.heap.size) A0 A1 c0 c1 x) (hn : ans.list.length = n) (hs : SliceIs E (Row3 E) RA n rc ans.list) (hb : Below w.heap.size w E)
    (hc : Chg (fun i => i = w.heap.size + 1 + 1 ∨ i = w.heap.size + 1 + 1 + 1) E W') :
    SpecM Kx r w (.returned (.tuple #[.agg #[.slice A0 x.1.length c0, .slice A1 x.2.length c1], .agg (ans.cells (.slice RA n rc)), .bool okb])) W' := by
  subst hr
  subst hn
  have hk : ∀ p : Addr, p.block < E.heap.size → NotR Kx w.heap.size p.block → W'.cell? p = E.cell? p := fun p hp hn => hc.cell hp (fun h => h.elim hn.ne0 hn.ne1)
  have ht2 := TwoIn.keep ht hc.size hk
  have hx : ∀ i, NotR Kx w.heap.size i → Kx i ∨ w.heap.size ≤ i := fun i h => h.elim (fun h => Or.inl h.1) (fun h => Or.inr (by omega))
  refine ⟨A0, A1, c0, c1, RA, rc, rfl, ⟨ht2.p0.more (fun i _ h => hx i h), ht2.p1.more (fun i _ h => hx i h)⟩, hs.row hc (fun i cs hb h => ?_), hb.trans (hc.below hb.size (fun i hi => by rcases hi with h | h <;> omega))⟩
  rcases h with rfl | rfl
  · exact hb.ne_ hq0 (by decide) rfl
  · exact hb.ne_ hq1 (by decide) rfl

theorem below_q {B : Nat} {w w' : World} (h : Below B w w') (n : Nat) : Below B w (w'.drewN n) := ⟨h.os, h.tape, h.output, h.size, h.block⟩

theorem TwoIn.notR {Kx : Nat → Prop} {w E : World} {A0 A1 : Option Addr} {c0 c1 : Nat} {x : Two} (h : TwoIn E (Lo Kx w.heap.size) A0 A1 c0 c1 x) : TwoIn E (NotR Kx w.heap.size) A0 A1 c0 c1 x :=
  ⟨h.p0.more (fun _ _ hi => Or.inl hi), h.p1.more (fun _ _ hi => Or.inl hi)⟩

/-- The blocks that are none of the variables. -/
def NotG (Kx : Nat → Prop) (g : Nat) (i : Nat) : Prop := (Kx i ∧ i < g) ∨ g + 4 ≤ i

/-- The variables of spec.Maps behind the steps. -/
structure SpE (w E : World) (s0 s1 : Value) : Prop where
  bel : Below w.heap.size w E
  m : Blk E w.heap.size 49 #[s0, s1]
  r0 : Blk E (w.heap.size + 2) 49 #[.slice none 0 0, .slice none 0 0]
  r1 : Blk E (w.heap.size + 3) 31 #[.int .i64 0, .bool false, .slice none 0 0, .bool false]

theorem SpW.e {w W : World} {s0 s1 : Value} {cs : Array Value} (h : SpW w W s0 s1 cs) : SpE w W s0 s1 := ⟨h.bel, h.m, h.r0, h.r1⟩
theorem SpE.size {w E : World} {s0 s1 : Value} (h : SpE w E s0 s1) : w.heap.size + 4 ≤ E.heap.size := h.r1.lt
theorem SpE.below {w E E' : World} {s0 s1 : Value} (h : SpE w E s0 s1) (hb : Below (w.heap.size + 4) E E') : SpE w E' s0 s1 :=
  ⟨h.bel.trans (hb.mono (by omega)), h.m.below hb (by omega), h.r0.below hb (by omega), h.r1.below hb (by omega)⟩
theorem SpE.set0 {w E : World} {s0 s1 : Value} (h : SpE w E s0 s1) (v : Value) : SpE w (E.setCell ⟨w.heap.size, 0, none⟩ v) v s1 :=
  ⟨h.bel.trans (((Chg.refl (fun i => i = w.heap.size) E).setCell (p := ⟨w.heap.size, 0, none⟩) (fun _ => rfl) v).below (by have := h.size; omega) (fun i hi => by omega)), h.m.set_ 0 v, h.r0.far (p := ⟨w.heap.size, 0, none⟩) (by show w.heap.size + 2 ≠ w.heap.size; omega) v, h.r1.far (p := ⟨w.heap.size, 0, none⟩) (by show w.heap.size + 3 ≠ w.heap.size; omega) v⟩
theorem SpE.set1 {w E : World} {s0 s1 : Value} (h : SpE w E s0 s1) (v : Value) : SpE w (E.setCell ⟨w.heap.size, 1, none⟩ v) s0 v :=
  ⟨h.bel.trans (((Chg.refl (fun i => i = w.heap.size) E).setCell (p := ⟨w.heap.size, 1, none⟩) (fun _ => rfl) v).below (by have := h.size; omega) (fun i hi => by omega)), h.m.set_ 1 v, h.r0.far (p := ⟨w.heap.size, 1, none⟩) (by show w.heap.size + 2 ≠ w.heap.size; omega) v, h.r1.far (p := ⟨w.heap.size, 1, none⟩) (by show w.heap.size + 3 ≠ w.heap.size; omega) v⟩
theorem PairsIn.setg {Kx : Nat → Prop} {w E : World} {A : Option Addr} {n c : Nat} {l : List (Int × Int)} (h : PairsIn E (NotG Kx w.heap.size) A n c l) (j : Nat) (v : Value) : PairsIn (E.setCell ⟨w.heap.size, j, none⟩ v) (NotG Kx w.heap.size) A n c l :=
  h.keep ((Chg.refl (fun i => i = w.heap.size) E).setCell (p := ⟨w.heap.size, j, none⟩) (fun _ => rfl) v).size (fun p hp hk => ((Chg.refl (fun i => i = w.heap.size) E).setCell (p := ⟨w.heap.size, j, none⟩) (fun _ => rfl) v).cell hp (fun e => by have e' : p.block = w.heap.size := e; rcases hk with h | h <;> omega))
theorem PairsIn.notR {Kx : Nat → Prop} {g : Nat} {E : World} {A : Option Addr} {n c : Nat} {l : List (Int × Int)} (h : PairsIn E (NotG Kx g) A n c l) : PairsIn E (NotR Kx g) A n c l :=
  h.more (fun _ _ hk => hk)
theorem TwoIn.notG {Kx : Nat → Prop} {w E : World} {A0 A1 : Option Addr} {c0 c1 : Nat} {x : Two} (h : TwoIn E (Lo Kx w.heap.size) A0 A1 c0 c1 x) : TwoIn E (NotG Kx w.heap.size) A0 A1 c0 c1 x :=
  ⟨h.p0.more (fun _ _ hi => Or.inl hi), h.p1.more (fun _ _ hi => Or.inl hi)⟩
theorem TwoIn.lo {Kx : Nat → Prop} {w : World} {A0 A1 : Option Addr} {c0 c1 : Nat} {x : Two} (h : TwoIn w Kx A0 A1 c0 c1 x) : TwoIn w (Lo Kx w.heap.size) A0 A1 c0 c1 x := ⟨h.p0.more (fun _ hi hk => ⟨hk, hi⟩), h.p1.more (fun _ hi hk => ⟨hk, hi⟩)⟩

theorem putS_len (l : List (Int × Int)) (k v : Int) : (putS l k v).length ≤ l.length + 1 := by
  unfold putS
  split
  · simp
  · simp

/-- spec.Maps' Update, so far. -/
structure UpdI (Kx : Nat → Prop) (w W wr : World) (a o : List (Int × Int)) (j : Nat) (B : Option Addr) (d : Nat) (xs : List (Int × Int)) : Prop where
  bel : Below W.heap.size W wr
  pairs : PairsIn wr (NotG Kx w.heap.size) B xs.length d xs
  eq : xs = (o.take j).foldl (fun l q => putS l q.1 q.2) a
  len : xs.length ≤ a.length + j

theorem pairs_own_ {w : World} {base n c m : Nat} {A : Option Addr} {l : List (Int × Int)} (h : w.ownsRow base 91 2 (.slice A n c) n (pfl l)) (hm : m = n) : PairsIn w (fun i => base ≤ i) A m c l := hm ▸ pairs_own h

/-- What the two slices around a pair read. -/
theorem PairsIn.two {w : World} {K : Nat → Prop} {ad : Addr} {n c i : Nat} {l : List (Int × Int)} (h : PairsIn w K (some ad) n c l) (hi : i < n) :
    Reads w K 2 (some ad) i (pfl (l.take i)) ∧ Reads w K 2 (some (ad.add ((i + 1) * 2))) (n - (i + 1)) (pfl (l.drop (i + 1))) := by
  have hl := h.len
  obtain ⟨ad', e, hk, hlt, hc⟩ := h.reads.2 (by omega)
  cases e
  have h1 : pfl l = pfl (l.take i) ++ pfl (l.drop i) := by rw [← pfl_append, List.take_append_drop]
  have h2 : pfl l = pfl (l.take (i + 1)) ++ pfl (l.drop (i + 1)) := by rw [← pfl_append, List.take_append_drop]
  refine ⟨⟨by rw [pfl_len, List.length_take]; congr 1; omega, fun _ => ⟨ad, rfl, hk, hlt, fun j u hu => hc j u ?_⟩⟩, ⟨by rw [pfl_len, List.length_drop, hl], fun _ => ⟨_, rfl, by rw [block_of_add]; exact hk, by rw [block_of_add]; exact hlt, fun j u hu => ?_⟩⟩⟩
  · rw [h1, List.getElem?_append_left (List.getElem?_eq_some_iff.1 hu).1]; exact hu
  · rw [add_of_add]
    refine hc _ u ?_
    rw [h2, List.getElem?_append_right (by rw [pfl_len, List.length_take]; omega), pfl_len, List.length_take, show min (i + 1) l.length = i + 1 by omega, show (i + 1) * 2 + j - (i + 1) * 2 = j by omega]
    exact hu

end Go.Proofs.Ytammpllfmbmdmaa
