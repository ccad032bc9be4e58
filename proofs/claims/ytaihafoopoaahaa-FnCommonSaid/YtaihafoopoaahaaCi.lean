/- The state of lcss between its steps: heads, boilerplate, the tree, the answer so far. No condition. -/
import Derived.Test.YtaihafoopoaahaaCf
import Derived.Test.YtaihafoopoaahaaCg
import Derived.Test.YtaihafoopoaahaaCh
namespace Go.Proofs.Ytaihafoopoaahaa
open Go.RowKit

/-! ### counts -/
def remN (n h : Nat → Nat) : Nat → Nat
  | 0 => 0
  | k + 1 => remN n h k + (n k - h k)
def boilN (h : Nat → Nat) : Nat → Nat
  | 0 => 0
  | k + 1 => boilN h k + (if h k = 0 then 0 else 1)
theorem remN_far (n h : Nat → Nat) (m v : Nat) : ∀ k, k ≤ m → remN n (updN h m v) k = remN n h k
  | 0, _ => rfl
  | k + 1, hk => by
    have e : updN h m v k = h k := if_neg (by omega)
    rw [remN, remN, remN_far n h m v k (by omega), e]
theorem remN_upd (n h : Nat → Nat) {m : Nat} (hlt : h m < n m) : ∀ k, m < k → remN n (updN h m (h m + 1)) k + 1 = remN n h k
  | 0, hk => absurd hk (by omega)
  | k + 1, hk => by
    rcases Nat.lt_or_ge m k with h1 | h1
    · have ih := remN_upd n h hlt k h1
      have e : updN h m (h m + 1) k = h k := if_neg (by omega)
      rw [remN, remN, e]
      omega
    · obtain rfl : m = k := by omega
      have e : updN h m (h m + 1) m = h m + 1 := if_pos rfl
      rw [remN, remN, remN_far n h m (h m + 1) m (Nat.le_refl _), e]
      omega
theorem boilN_far (h : Nat → Nat) (m v : Nat) : ∀ k, k ≤ m → boilN (updN h m v) k = boilN h k
  | 0, _ => rfl
  | k + 1, hk => by
    have e : updN h m v k = h k := if_neg (by omega)
    rw [boilN, boilN, boilN_far h m v k (by omega), e]
theorem boilN_upd (h : Nat → Nat) {m : Nat} : ∀ k, m < k → boilN (updN h m (h m + 1)) k = boilN h k + (if h m = 0 then 1 else 0)
  | 0, hk => absurd hk (by omega)
  | k + 1, hk => by
    rcases Nat.lt_or_ge m k with h1 | h1
    · have ih := boilN_upd h k h1
      have e : updN h m (h m + 1) k = h k := if_neg (by omega)
      rw [boilN, boilN, e]
      omega
    · obtain rfl : m = k := by omega
      have e : updN h m (h m + 1) m = h m + 1 := if_pos rfl
      rw [boilN, boilN, boilN_far h m (h m + 1) m (Nat.le_refl _), e, if_neg (by omega)]
      split <;> omega
theorem boilN_le (h : Nat → Nat) : ∀ k, boilN h k ≤ k
  | 0 => Nat.le_refl _
  | k + 1 => by
    have := boilN_le h k
    rw [boilN]
    split <;> omega
theorem boilN_all (h : Nat → Nat) : ∀ k, boilN h k = k ↔ ∀ i, i < k → 0 < h i
  | 0 => by simp [boilN]
  | k + 1 => by
    have h1 := boilN_le h k
    have ih := boilN_all h k
    rw [boilN]
    constructor
    · intro e i hi
      have h2 : boilN h k = k ∧ h k ≠ 0 := by split at e <;> omega
      rcases Nat.lt_or_ge i k with h3 | h3
      · exact ih.1 h2.1 i h3
      · obtain rfl : i = k := by omega
        omega
    · intro hall
      have h2 := ih.2 (fun i hi => hall i (by omega))
      have h3 := hall k (by omega)
      rw [if_neg (by omega)]
      omega

/-! ### the texts in memory -/
structure Txs (w : World) (A : Option Addr) (k : Nat) (T : Nat → Bs) (AT : Nat → Option Addr) (cT : Nat → Nat) : Prop where
  cell : ∀ i, i < k → ∃ ad, A = some ad ∧ ad.block < w.heap.size ∧ w.cell? (ad.add i) = some (.slice (AT i) (T i).length (cT i))
  txt : ∀ i, i < k → Reads w (fun i => i < w.heap.size) 1 (AT i) (T i).length (bts (T i))
  cap : ∀ i, i < k → (T i).length ≤ cT i
  nil : ∀ i, i < k → AT i = none → cT i = 0
theorem Txs.below {w w' : World} {A : Option Addr} {k : Nat} {T : Nat → Bs} {AT : Nat → Option Addr} {cT : Nat → Nat} (h : Txs w A k T AT cT) (hb : Below w.heap.size w w') : Txs w' A k T AT cT :=
  ⟨fun i hi => by
    obtain ⟨ad, e, h1, h2⟩ := h.cell i hi
    exact ⟨ad, e, Nat.lt_of_lt_of_le h1 hb.size, (hb.cell (p := ad.add i) (by rw [block_of_add]; exact h1)).trans h2⟩, fun i hi => ((h.txt i hi).below hb).lower, h.cap, h.nil⟩
structure Sfs (w : World) (sb : Nat) (k : Nat) (T : Nat → Bs) (G : Nat → Nat) (p : Nat → Nat → Nat) : Prop where
  row : Blk w sb 23 (arrV k (fun i => .slice (some ⟨G i, 0, none⟩) (T i).length (T i).length))
  sa : ∀ i, i < k → Blk w (G i) 3 (arr (T i).length (fun j => (p i j : Int)))
  suf : ∀ i, i < k → SufArr (T i) (T i).length (p i)
theorem Sfs.below {w w' : World} {sb k : Nat} {T : Nat → Bs} {G : Nat → Nat} {p : Nat → Nat → Nat} (h : Sfs w sb k T G p) (hb : Below w.heap.size w w') : Sfs w' sb k T G p :=
  ⟨h.row.below hb h.row.lt, fun i hi => (h.sa i hi).below hb (h.sa i hi).lt, h.suf⟩

/-- The suffix of a text from a place on, as a slice. -/
def sufV (T : Nat → Bs) (AT : Nat → Option Addr) (cT : Nat → Nat) (i pos : Nat) : Value := .slice ((AT i).map (fun ad => ad.add pos)) ((T i).length - pos) (cT i - pos)
theorem reads_suffix {w : World} {K : Nat → Prop} {ad : Addr} {D : Bs} {pos : Nat} (h : Reads w K 1 (some ad) D.length (bts D)) (hp : pos < D.length) : Reads w K 1 (some (ad.add pos)) (D.drop pos).length (bts (D.drop pos)) := by
  obtain ⟨ad', e, h1, h2, h3⟩ := h.2 (by omega)
  injection e with e
  subst e
  refine ⟨by simp, fun _ => ⟨_, rfl, by rw [block_of_add]; exact h1, by rw [block_of_add]; exact h2, fun j u hu => ?_⟩⟩
  rw [add_of_add]
  refine h3 (pos + j) u ?_
  rw [List.getElem?_map, List.getElem?_drop] at hu
  rw [List.getElem?_map]
  exact hu

/-- The boilerplate. -/
def bV (T : Nat → Bs) (AT : Nat → Option Addr) (cT : Nat → Nat) (p : Nat → Nat → Nat) (h : Nat → Nat) (i : Nat) : Value := if h i = 0 then .slice none 0 0 else sufV T AT cT i (p i (h i - 1))
def bpl (k : Nat) (T : Nat → Bs) (p : Nat → Nat → Nat) (h : Nat → Nat) : List Bs := (List.range k).map (fun i => if h i = 0 then [] else sf T p i (h i - 1))
theorem bpl_get {k : Nat} {T : Nat → Bs} {p : Nat → Nat → Nat} {h : Nat → Nat} {i : Nat} (hi : i < k) : (bpl k T p h)[i]? = some (if h i = 0 then [] else sf T p i (h i - 1)) := by simp [bpl, hi]
theorem bpl_upd {k : Nat} {T : Nat → Bs} {p : Nat → Nat → Nat} {h : Nat → Nat} {m : Nat} (_hm : m < k) : (bpl k T p h).set m (sf T p m (h m)) = bpl k T p (updN h m (h m + 1)) := by
  apply List.ext_getElem?
  intro i
  rcases Nat.lt_or_ge i k with hi | hi
  · rw [List.getElem?_set, bpl_get hi, bpl_get hi]
    by_cases e : m = i
    · subst e
      have e1 : updN h m (h m + 1) m = h m + 1 := if_pos rfl
      rw [if_pos rfl, if_pos (by simp [bpl, hi]), e1, if_neg (by omega), Nat.add_sub_cancel]
    · have e1 : updN h m (h m + 1) i = h i := if_neg (fun e2 => e e2.symm)
      rw [if_neg e, e1]
  · rw [List.getElem?_eq_none (by simp [bpl]; omega), List.getElem?_eq_none (by simp [bpl]; omega)]
theorem bV_upd {k : Nat} {T : Nat → Bs} {AT : Nat → Option Addr} {cT : Nat → Nat} {p : Nat → Nat → Nat} {h : Nat → Nat} {m : Nat} : arrV k (updV (bV T AT cT p h) m (sufV T AT cT m (p m (h m)))) = arrV k (bV T AT cT p (updN h m (h m + 1))) := by
  refine arrV_congr (fun i _ => ?_)
  unfold updV bV
  by_cases e : i = m
  · subst e
    have e1 : updN h i (h i + 1) i = h i + 1 := if_pos rfl
    rw [if_pos rfl, e1, if_neg (by omega), Nat.add_sub_cancel]
  · have e1 : updN h m (h m + 1) i = h i := if_neg e
    rw [if_neg e, e1]

/-- The memory between two steps. -/
structure Lm (w0 : World) (k : Nat) (T : Nat → Bs) (AT : Nat → Option Addr) (cT : Nat → Nat) (p : Nat → Nat → Nat) (hb bb root : Nat) (W : World) (hH hB : Nat → Nat) (M : List Bs) (z : Bs) (lg : Nat) : Prop where
  heads : Blk W hb 3 (arr k (fun i => (hH i : Int)))
  boil : Blk W bb 22 (arrV k (bV T AT cT p hB))
  tree : ∃ F C L, CtM W root F (cntU M) C L ∧ (∀ g, F g → root ≤ g) ∧ ¬ F lg
  lcs : Reads W (fun g => g = lg) 1 (some ⟨lg, 0, none⟩) z.length (bts z)
  bel : Below w0.heap.size w0 W
  o1 : w0.heap.size ≤ hb
  o2 : hb < bb
  o3 : bb < root
  o4 : root < lg
  o5 : lg < W.heap.size

section
variable {w0 W W' : World} {k : Nat} {T : Nat → Bs} {AT : Nat → Option Addr} {cT : Nat → Nat} {p : Nat → Nat → Nat} {hb bb root : Nat} {hH hB : Nat → Nat} {M : List Bs} {z : Bs} {lg : Nat}

/-- A step on the tree. -/
theorem Lm.tree_ {M' : List Bs} {F : Nat → Prop} (l : Lm w0 k T AT cT p hb bb root W hH hB M z lg) (hF : ∀ g, F g → root ≤ g) (hl : ¬ F lg) (hc : Chg F W W') (h : ∃ F' C L, CtM W' root F' (cntU M') C L ∧ ∀ g, F' g → F g ∨ W.heap.size ≤ g) : Lm w0 k T AT cT p hb bb root W' hH hB M' z lg := by
  have h1 := l.o1
  have h2 := l.o2
  have h3 := l.o3
  have h5 := l.o5
  have hs := hc.size
  refine ⟨l.heads.chg hc (fun h => by have := hF _ h; omega), l.boil.chg hc (fun h => by have := hF _ h; omega), ?_, l.lcs.chg hc (fun i _ e h => hl (e ▸ h)), ?_, h1, h2, h3, l.o4, by omega⟩
  · obtain ⟨F', C, L, h6, h7⟩ := h
    have h8 := l.heads.lt
    have h9 : root < W.heap.size := by
      obtain ⟨_, _, _, h10, _⟩ := l.tree
      exact h10.rootB.lt
    exact ⟨F', C, L, h6, fun g hg => (h7 g hg).elim (hF g) (fun h => by omega), fun hg => (h7 lg hg).elim hl (fun h => by omega)⟩
  · have h8 := l.bel.size
    exact l.bel.trans (hc.below (B := w0.heap.size) h8 (fun i hi => by have := hF i hi; omega))
theorem Lm.gr (l : Lm w0 k T AT cT p hb bb root W hH hB M z lg) (hc : Chg (fun _ => False) W W') : Lm w0 k T AT cT p hb bb root W' hH hB M z lg := by
  obtain ⟨F, C, L, h1, h2, h3⟩ := l.tree
  exact l.tree_ h2 h3 (hc.mono (fun _ _ h => h.elim)) ⟨F, C, L, h1.chg hc (fun _ _ h => h), fun g hg => Or.inl hg⟩
theorem Lm.drewN (l : Lm w0 k T AT cT p hb bb root W hH hB M z lg) (n : Nat) : Lm w0 k T AT cT p hb bb root (W.drewN n) hH hB M z lg := l.gr ((Chg.refl _ W).drewN n)
theorem Lm.setBoil (l : Lm w0 k T AT cT p hb bb root W hH hB M z lg) (m : Nat) : Lm w0 k T AT cT p hb bb root (W.setCell ⟨bb, m, none⟩ (sufV T AT cT m (p m (hB m)))) hH (updN hB m (hB m + 1)) M z lg := by
  have h1 := l.o1
  have h2 := l.o2
  have h3 := l.o3
  have h4 := l.o4
  have hc : Chg (fun g => g = bb) W (W.setCell ⟨bb, m, none⟩ (sufV T AT cT m (p m (hB m)))) := (Chg.refl (fun g => g = bb) W).setCell (p := ⟨bb, m, none⟩) (fun _ => rfl) _
  obtain ⟨F, C, L, h6, h7, h8⟩ := l.tree
  refine ⟨l.heads.chg hc (by omega), ?_, ⟨F, C, L, h6.chg hc (fun g hg e => by have := h7 g hg; omega), h7, h8⟩, l.lcs.chg hc (fun i _ e h => by omega), l.bel.trans (hc.below (B := w0.heap.size) l.bel.size (fun i hi => by omega)), h1, h2, h3, h4, Nat.lt_of_lt_of_le l.o5 hc.size⟩
  rw [← bV_upd]
  exact l.boil.vset m _
theorem Lm.setHead (l : Lm w0 k T AT cT p hb bb root W hH hB M z lg) (m : Nat) : Lm w0 k T AT cT p hb bb root (W.setCell ⟨hb, m, none⟩ (.int .i64 ((hH m : Int) + 1))) (updN hH m (hH m + 1)) hB M z lg := by
  have h1 := l.o1
  have h2 := l.o2
  have h3 := l.o3
  have h4 := l.o4
  have hc : Chg (fun g => g = hb) W (W.setCell ⟨hb, m, none⟩ (.int .i64 ((hH m : Int) + 1))) := (Chg.refl (fun g => g = hb) W).setCell (p := ⟨hb, m, none⟩) (fun _ => rfl) _
  obtain ⟨F, C, L, h6, h7, h8⟩ := l.tree
  refine ⟨?_, l.boil.chg hc (by omega), ⟨F, C, L, h6.chg hc (fun g hg e => by have := h7 g hg; omega), h7, h8⟩, l.lcs.chg hc (fun i _ e h => by omega), l.bel.trans (hc.below (B := w0.heap.size) l.bel.size (fun i hi => by omega)), h1, h2, h3, h4, Nat.lt_of_lt_of_le l.o5 hc.size⟩
  have h9 := l.heads.iset m ((hH m : Int) + 1)
  rw [arr_congr (T := fun i => (updN hH m (hH m + 1) i : Int)) (fun i _ => by
    unfold upd updN
    split <;> simp_all)] at h9
  exact h9
theorem Lm.setLcs {z' : Bs} {g : Nat} (l : Lm w0 k T AT cT p hb bb root W hH hB M z lg) (hc : Chg (fun _ => False) W W') (hg : W.heap.size ≤ g) (hg2 : g < W'.heap.size) (hr : Reads W' (fun i => i = g) 1 (some ⟨g, 0, none⟩) z'.length (bts z')) : Lm w0 k T AT cT p hb bb root W' hH hB M z' g := by
  have l' := l.gr hc
  obtain ⟨F, C, L, h1, h2, h3⟩ := l.tree
  have h9 := h1.rootB.lt
  have h10 := l.o4
  have h11 := l.o5
  -- the old footprint may hold fresh blocks; it is cut to those that were there
  refine ⟨l'.heads, l'.boil, ⟨fun i => F i ∧ i < W.heap.size, C, L, ?_, fun i hi => h2 i hi.1, fun hi => by have := hi.2; omega⟩, hr, l'.bel, l.o1, l.o2, l.o3, by omega, hg2⟩
  have h12 := h1.chg hc (fun _ _ h => h)
  exact ⟨h12.nodup, h12.mem, h12.rootB, ⟨h12.rootF, h9⟩, h12.row, fun q b hq hb => ⟨⟨(h12.foot q b hq hb).1, ((h1.row q hq).lt b hb).2⟩, (h12.foot q b hq hb).2⟩, h12.inj⟩
end

theorem CtM.init {w : World} {root : Nat} {M : List Bs} (hM : ∀ q, cntU M q = 0) (hr : Blk w root 46 #[.int .u8 0, .slice none 0 0, .int .i64 0]) : CtM w root (fun g => g = root) (cntU M) (fun _ => []) (fun _ => .slice none 0 0) :=
  ⟨fun _ _ => List.nodup_nil, fun q _ c => by simp [hM], hr, rfl, fun q _ => World.ownsRow_nil _ _ _ _, fun q b _ h => by simp [Value.ownBlock] at h, fun q r b _ _ h => by simp [Value.ownBlock] at h⟩
theorem bpl_zero (k : Nat) (T : Nat → Bs) (p : Nat → Nat → Nat) (q : Bs) : cntU (bpl k T p (fun _ => 0)) q = 0 := by
  rcases Nat.eq_zero_or_pos (cntU (bpl k T p (fun _ => 0)) q) with h | h
  · exact h
  · obtain ⟨h0, m, hm, hp⟩ := cntU_pos.1 h
    obtain ⟨i, _, rfl⟩ := List.mem_map.1 hm
    simp at hp
    exact absurd hp h0
theorem reads_arrV {w : World} {g : Nat} {q : Bs} (h : Blk w g 5 (arrV q.length (fun t => .int .u8 ((q.getD t 0).toNat : Int)))) : Reads w (fun i => i = g) 1 (some ⟨g, 0, none⟩) q.length (bts q) := by
  refine ⟨by simp, fun _ => ⟨_, rfl, rfl, h.lt, fun j u hu => ?_⟩⟩
  have hj := (List.getElem?_eq_some_iff.1 hu).1
  rw [List.length_map] at hj
  rw [add_plain, Nat.zero_add, h.vcell hj]
  rw [List.getElem?_map, List.getElem?_eq_getElem hj] at hu
  simp at hu
  simp [hj, ← hu]
end Go.Proofs.Ytaihafoopoaahaa
