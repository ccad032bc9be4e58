/- The tree of characters in memory, and what a store, a push and a pull leave of it. No condition. -/
import Derived.Test.YtaihafoopoaahaaCa
import Derived.Test.YtaihafoopoaahaaSu3
namespace Go.Proofs.Ytaihafoopoaahaa
open Go.RowKit

abbrev On (U : Bs → Nat) (q : Bs) : Prop := q = [] ∨ 0 < U q
def nodeC (U : Bs → Nat) (L : Bs → Value) (q : Bs) (c : UInt8) : List Value := [.int .u8 (c.toNat : Int), L (q ++ [c]), .int .i64 (U (q ++ [c]) : Int)]
def kids (U : Bs → Nat) (L : Bs → Value) (q : Bs) (cs : Bs) : List Value := cs.flatMap (nodeC U L q)

/-- The tree: C q are the characters behind the path q, in the order of their places; L q is the slice of its children; U q how often it is used. -/
structure CtM (w : World) (root : Nat) (F : Nat → Prop) (U : Bs → Nat) (C : Bs → Bs) (L : Bs → Value) : Prop where
  nodup : ∀ q, On U q → (C q).Nodup
  mem : ∀ q, On U q → ∀ c, c ∈ C q ↔ 0 < U (q ++ [c])
  rootB : Blk w root 46 #[.int .u8 0, L [], .int .i64 0]
  rootF : F root
  row : ∀ q, On U q → w.ownsRow 0 46 3 (L q) (C q).length (kids U L q (C q))
  foot : ∀ q b, On U q → (L q).ownBlock = some b → F b ∧ b ≠ root
  inj : ∀ q r b, On U q → On U r → (L q).ownBlock = some b → (L r).ownBlock = some b → q = r

/-- Where the node of a path lies. -/
def HeadAt (U : Bs → Nat) (root : Nat) (C : Bs → Bs) (L : Bs → Value) (q : Bs) (hb ho : Nat) : Prop :=
  (q = [] ∧ hb = root ∧ ho = 0) ∨ ∃ p c j, q = p ++ [c] ∧ On U p ∧ (L p).ownBlock = some hb ∧ (C p)[j]? = some c ∧ ho = j * 3

theorem kids_len (U : Bs → Nat) (L : Bs → Value) (q : Bs) : ∀ cs : Bs, (kids U L q cs).length = cs.length * 3
  | [] => rfl
  | c :: cs => by
    have := kids_len U L q cs
    simp only [kids, List.flatMap_cons, List.length_append, List.length_cons] at this ⊢
    rw [this]
    simp [nodeC]
    omega
theorem kids_at (U : Bs → Nat) (L : Bs → Value) (q : Bs) : ∀ (cs : Bs) (j : Nat) (c : UInt8), cs[j]? = some c → (kids U L q cs)[j * 3]? = some (.int .u8 (c.toNat : Int)) ∧ (kids U L q cs)[j * 3 + 1]? = some (L (q ++ [c])) ∧ (kids U L q cs)[j * 3 + 2]? = some (.int .i64 (U (q ++ [c]) : Int))
  | [], j, c, h => by simp at h
  | a :: cs, 0, c, h => by
    have : a = c := by simpa using h
    subst this
    simp [kids, nodeC]
  | a :: cs, j + 1, c, h => by
    have ih := kids_at U L q cs j c (by simpa using h)
    have e : ∀ t, (kids U L q (a :: cs))[(j + 1) * 3 + t]? = (kids U L q cs)[j * 3 + t]? := fun t => by
      simp only [kids, List.flatMap_cons]
      rw [List.getElem?_append_right (by simp [nodeC]; omega)]
      congr 1
      simp [nodeC]
      omega
    exact ⟨(e 0).trans ih.1, (e 1).trans ih.2.1, (e 2).trans ih.2.2⟩
theorem kids_congr {U U' : Bs → Nat} {L L' : Bs → Value} {q : Bs} {cs : Bs} (h : ∀ c ∈ cs, U (q ++ [c]) = U' (q ++ [c]) ∧ L (q ++ [c]) = L' (q ++ [c])) : kids U L q cs = kids U' L' q cs := by
  induction cs with
  | nil => rfl
  | cons a cs ih =>
    have h0 := h a (List.mem_cons_self ..)
    have h1 := ih (fun c hc => h c (List.mem_cons_of_mem _ hc))
    simp only [kids, List.flatMap_cons] at h1 ⊢
    rw [h1]
    simp [nodeC, h0.1, h0.2]
theorem kids_append (U : Bs → Nat) (L : Bs → Value) (q : Bs) (a b : Bs) : kids U L q (a ++ b) = kids U L q a ++ kids U L q b := by simp [kids]
theorem kids_one (U : Bs → Nat) (L : Bs → Value) (q : Bs) : ∀ cs : Bs, ∀ u ∈ kids U L q cs, (∀ r, (L r).oneCell' = true) → u.oneCell' = true := fun cs u hu hL => by
  obtain ⟨c, _, h⟩ := List.mem_flatMap.1 hu
  simp [nodeC] at h
  rcases h with rfl | rfl | rfl
  · rfl
  · exact hL _
  · rfl

def updL (L : Bs → Value) (q : Bs) (v : Value) : Bs → Value := fun r => if r = q then v else L r
def updU (U : Bs → Nat) (q : Bs) (v : Nat) : Bs → Nat := fun r => if r = q then v else U r
theorem snoc_inj {p q : Bs} {a b : UInt8} (h : p ++ [a] = q ++ [b]) : p = q ∧ a = b := by
  have := List.append_inj' h rfl
  simpa using this
theorem kids_setL (U : Bs → Nat) (L : Bs → Value) (p : Bs) (v : Value) : ∀ (cs : Bs) (j : Nat) (c : UInt8), cs.Nodup → cs[j]? = some c → kids U (updL L (p ++ [c]) v) p cs = (kids U L p cs).set (j * 3 + 1) v
  | [], j, c, _, h => by simp at h
  | a :: cs, 0, c, hn, h => by
    have : a = c := by simpa using h
    subst this
    have hr : kids U (updL L (p ++ [a]) v) p cs = kids U L p cs := kids_congr (fun x hx => ⟨rfl, by
      unfold updL
      rw [if_neg]
      intro e
      obtain ⟨_, e⟩ := snoc_inj e
      subst e
      exact (List.nodup_cons.1 hn).1 hx⟩)
    simp only [kids, List.flatMap_cons] at hr ⊢
    rw [hr]
    simp [nodeC, updL]
  | a :: cs, j + 1, c, hn, h => by
    have hj : cs[j]? = some c := by simpa using h
    have ih := kids_setL U L p v cs j c (List.nodup_cons.1 hn).2 hj
    have hac : a ≠ c := fun e => (List.nodup_cons.1 hn).1 (e ▸ List.mem_of_getElem? hj)
    have h0 : nodeC U (updL L (p ++ [c]) v) p a = nodeC U L p a := by
      simp only [nodeC, updL]
      rw [if_neg (fun e => hac (snoc_inj e).2)]
    simp only [kids, List.flatMap_cons] at ih ⊢
    rw [ih, h0, List.set_append_right _ _ (by simp [nodeC]; omega)]
    congr 2
    simp [nodeC]; omega
theorem kids_setU (U : Bs → Nat) (L : Bs → Value) (p : Bs) (v : Nat) : ∀ (cs : Bs) (j : Nat) (c : UInt8), cs.Nodup → cs[j]? = some c → kids (updU U (p ++ [c]) v) L p cs = (kids U L p cs).set (j * 3 + 2) (.int .i64 (v : Int))
  | [], j, c, _, h => by simp at h
  | a :: cs, 0, c, hn, h => by
    have : a = c := by simpa using h
    subst this
    have hr : kids (updU U (p ++ [a]) v) L p cs = kids U L p cs := kids_congr (fun x hx => ⟨by
      unfold updU
      rw [if_neg]
      intro e
      obtain ⟨_, e⟩ := snoc_inj e
      subst e
      exact (List.nodup_cons.1 hn).1 hx, rfl⟩)
    simp only [kids, List.flatMap_cons] at hr ⊢
    rw [hr]
    simp [nodeC, updU]
  | a :: cs, j + 1, c, hn, h => by
    have hj : cs[j]? = some c := by simpa using h
    have ih := kids_setU U L p v cs j c (List.nodup_cons.1 hn).2 hj
    have hac : a ≠ c := fun e => (List.nodup_cons.1 hn).1 (e ▸ List.mem_of_getElem? hj)
    have h0 : nodeC (updU U (p ++ [c]) v) L p a = nodeC U L p a := by
      simp only [nodeC, updU]
      rw [if_neg (fun e => hac (snoc_inj e).2)]
    simp only [kids, List.flatMap_cons] at ih ⊢
    rw [ih, h0, List.set_append_right _ _ (by simp [nodeC]; omega)]
    congr 2
    simp [nodeC]; omega

section
variable {w w' w2 : World} {base n : Nat} {e : TypeId} {size : Nat} {v : Value} {xs : List Value}
theorem own_some {g : Nat} (h : w.ownsRow base e size v n xs) (hg : v.ownBlock = some g) : ∃ c, v = .slice (some ⟨g, 0, none⟩) n c := by
  rcases h.2 with ⟨rfl, rfl⟩ | ⟨g', cap, cur, rfl, _⟩
  · simp [Value.ownBlock] at hg
  · have : g' = g := by simpa [Value.ownBlock] using hg
    subst this
    exact ⟨cap, rfl⟩
theorem own_pos (h : w.ownsRow base e size v n xs) (hn : 0 < n) : ∃ g c, v = .slice (some ⟨g, 0, none⟩) n c ∧ v.ownBlock = some g := by
  rcases h.2 with ⟨rfl, rfl⟩ | ⟨g', cap, cur, rfl, _⟩
  · omega
  · exact ⟨g', cap, rfl, rfl⟩
theorem own_setAt {g i : Nat} (h : w.ownsRow base e size v n xs) (hg : v.ownBlock = some g) (u : Value) : (w.setCell ⟨g, i, none⟩ u).ownsRow base e size v n (xs.set i u) := by
  obtain ⟨c, rfl⟩ := own_some h hg
  exact (h.stored i u).1
theorem own_far {p : Addr} (h : w.ownsRow base e size v n xs) (hg : v.ownBlock ≠ some p.block) (u : Value) : (w.setCell p u).ownsRow base e size v n xs :=
  own_below h ((Chg.refl (fun i => i = p.block) w).setCell (p := p) (fun _ => rfl) u) (fun i hi e => hg (by rw [hi, e]))
theorem own_cellAt {g i : Nat} (h : w.ownsRow base e size v n xs) (hg : v.ownBlock = some g) (hi : i < n * size) : w.cell? ⟨g, i, none⟩ = xs[i]? := by
  obtain ⟨c, rfl⟩ := own_some h hg
  exact h.cellAt i hi
theorem own_frozenAt {g i : Nat} (h : w.ownsRow base e size v n xs) (hg : v.ownBlock = some g) : w.frozen? ⟨g, i, none⟩ = false := by
  obtain ⟨c, rfl⟩ := own_some h hg
  exact h.frozenAt i
end

section
variable {w w' w2 : World} {root : Nat} {F : Nat → Prop} {U : Bs → Nat} {C : Bs → Bs} {L : Bs → Value} {q : Bs} {c : UInt8} {j b hb ho : Nat}

theorem CtM.chg {S : Nat → Prop} (h : CtM w root F U C L) (hc : Chg S w w') (hS : ∀ g, F g → ¬ S g) : CtM w' root F U C L :=
  ⟨h.nodup, h.mem, h.rootB.chg hc (hS _ h.rootF), h.rootF, fun q hq => own_below (h.row q hq) hc (fun i hi => hS i (h.foot q i hq hi).1), h.foot, h.inj⟩
theorem CtM.wide {F' : Nat → Prop} (h : CtM w root F U C L) (hF : ∀ g, F g → F' g) : CtM w root F' U C L :=
  ⟨h.nodup, h.mem, h.rootB, hF _ h.rootF, h.row, fun q b hq hb => ⟨hF _ (h.foot q b hq hb).1, (h.foot q b hq hb).2⟩, h.inj⟩

theorem CtM.slice (h : CtM w root F U C L) (hq : On U q) : ∃ A c, L q = .slice A (C q).length c ∧ (A = none ∨ ∃ g, A = some ⟨g, 0, none⟩ ∧ (L q).ownBlock = some g) := by
  rcases (h.row q hq).2 with ⟨h1, h2⟩ | ⟨g, cap, cur, h1, _⟩
  · exact ⟨none, 0, by rw [h1, h2], Or.inl rfl⟩
  · exact ⟨_, cap, h1, Or.inr ⟨g, rfl, by rw [h1]; rfl⟩⟩
theorem CtM.few (h : CtM w root F U C L) (hq : On U q) : (C q).length ≤ 256 := bytes_few (h.nodup q hq)

/-- The cells of a child. -/
theorem CtM.kid (h : CtM w root F U C L) (hq : On U q) (hj : (C q)[j]? = some c) : ∃ b cp, L q = .slice (some ⟨b, 0, none⟩) (C q).length cp ∧ (L q).ownBlock = some b ∧ F b ∧ b ≠ root ∧
    w.cell? ⟨b, j * 3, none⟩ = some (.int .u8 (c.toNat : Int)) ∧ w.cell? ⟨b, j * 3 + 1, none⟩ = some (L (q ++ [c])) ∧ w.cell? ⟨b, j * 3 + 2, none⟩ = some (.int .i64 (U (q ++ [c]) : Int)) ∧
    (∀ i, w.frozen? ⟨b, i, none⟩ = false) := by
  have hl := (List.getElem?_eq_some_iff.1 hj).1
  obtain ⟨b, cp, h1, h2⟩ := own_pos (h.row q hq) (by omega)
  obtain ⟨k0, k1, k2⟩ := kids_at U L q (C q) j c hj
  refine ⟨b, cp, h1, h2, (h.foot q b hq h2).1, (h.foot q b hq h2).2, ?_, ?_, ?_, fun i => own_frozenAt (h.row q hq) h2⟩
  · rw [own_cellAt (h.row q hq) h2 (by omega), k0]
  · rw [own_cellAt (h.row q hq) h2 (by omega), k1]
  · rw [own_cellAt (h.row q hq) h2 (by omega), k2]

/-- The cells of a head. -/
theorem CtM.head (h : CtM w root F U C L) (hd : HeadAt U root C L q hb ho) : w.cell? ⟨hb, ho + 1, none⟩ = some (L q) ∧ (∀ i, w.frozen? ⟨hb, i, none⟩ = false) ∧ F hb := by
  rcases hd with ⟨rfl, rfl, rfl⟩ | ⟨p, c, j, rfl, hp, hb1, hj, rfl⟩
  · exact ⟨by rw [h.rootB.cell]; rfl, fun i => h.rootB.frozen i, h.rootF⟩
  · obtain ⟨b, cp, _, h2, h3, _, _, h4, _, h5⟩ := h.kid hp hj
    rw [hb1] at h2
    injection h2 with h2
    subst h2
    exact ⟨h4, h5, h3⟩
theorem HeadAt.kid (hq : On U q) (hj : (C q)[j]? = some c) (hb : (L q).ownBlock = some b) : HeadAt U root C L (q ++ [c]) b (j * 3) := Or.inr ⟨q, c, j, rfl, hq, hb, hj, rfl⟩

theorem updU_pos {U : Bs → Nat} {q r : Bs} {v : Nat} (h0 : 0 < U q) (hv : 0 < v) : 0 < updU U q v r ↔ 0 < U r := by
  unfold updU
  split
  · rename_i h; subst h; omega
  · rfl

/-- A child's count is set. -/
theorem CtM.used (h : CtM w root F U C L) (hq : On U q) (hj : (C q)[j]? = some c) (hb : (L q).ownBlock = some b) (v : Nat) (hv : 0 < v) : CtM (w.setCell ⟨b, j * 3 + 2, none⟩ (.int .i64 (v : Int))) root F (updU U (q ++ [c]) v) C L := by
  have h0 : 0 < U (q ++ [c]) := (h.mem q hq c).1 (List.mem_of_getElem? hj)
  have hon : ∀ r, On (updU U (q ++ [c]) v) r ↔ On U r := fun r => by
    unfold On
    rw [updU_pos h0 hv]
  have hne := (h.foot q b hq hb).2
  refine ⟨fun r hr => h.nodup r ((hon r).1 hr), fun r hr x => ?_, h.rootB.far (p := ⟨b, j * 3 + 2, none⟩) (Ne.symm hne) _, h.rootF, fun r hr => ?_, fun r b' hr hb' => h.foot r b' ((hon r).1 hr) hb', fun r s b' hr hs => h.inj r s b' ((hon r).1 hr) ((hon s).1 hs)⟩
  · rw [h.mem r ((hon r).1 hr), updU_pos h0 hv]
  · have hr' := (hon r).1 hr
    by_cases hrq : r = q
    · subst hrq
      rw [kids_setU U L r v (C r) j c (h.nodup r hq) hj]
      exact own_setAt (h.row r hq) hb _
    · have : kids (updU U (q ++ [c]) v) L r (C r) = kids U L r (C r) := kids_congr (fun x _ => ⟨by
        unfold updU
        rw [if_neg (fun e => hrq (snoc_inj e).1)], rfl⟩)
      rw [this]
      exact own_far (h.row r hr') (fun e => hrq (h.inj r q b hr' hq e hb)) _

/-- The rows of the other nodes, and the root, where a node's own slice is laid anew in its cell. -/
theorem CtM.rows (h : CtM w root F U C L) (hq : On U q) (hd : HeadAt U root C L q hb ho) (hch : Chg (fun g => (L q).ownBlock = some g) w w2) (v : Value) {r : Bs} (hr : On U r) (hne : r ≠ q) :
    (w2.setCell ⟨hb, ho + 1, none⟩ v).ownsRow 0 46 3 (L r) (C r).length (kids U (updL L q v) r (C r)) := by
  have h1 : w2.ownsRow 0 46 3 (L r) (C r).length (kids U L r (C r)) := own_below (h.row r hr) hch (fun i hi e => hne (h.inj r q i hr hq hi e))
  rcases hd with ⟨rfl, rfl, rfl⟩ | ⟨p, c, j, rfl, hp, hb1, hj, rfl⟩
  · have : kids U (updL L [] v) r (C r) = kids U L r (C r) := kids_congr (fun x _ => ⟨rfl, by unfold updL; rw [if_neg (snoc_ne _ _)]⟩)
    rw [this]
    exact own_far h1 (fun e => (h.foot r _ hr e).2 rfl) _
  · by_cases hrp : r = p
    · subst hrp
      rw [kids_setL U L r v (C r) j c (h.nodup r hr) hj]
      exact own_setAt h1 hb1 _
    · have : kids U (updL L (p ++ [c]) v) r (C r) = kids U L r (C r) := kids_congr (fun x _ => ⟨rfl, by unfold updL; rw [if_neg (fun e => hrp (snoc_inj e).1)]⟩)
      rw [this]
      exact own_far h1 (fun e => hrp (h.inj r p _ hr hp e hb1)) _
theorem CtM.root_ (h : CtM w root F U C L) (hq : On U q) (hd : HeadAt U root C L q hb ho) (hch : Chg (fun g => (L q).ownBlock = some g) w w2) (v : Value) :
    Blk (w2.setCell ⟨hb, ho + 1, none⟩ v) root 46 #[.int .u8 0, updL L q v [], .int .i64 0] := by
  have h1 : Blk w2 root 46 #[.int .u8 0, L [], .int .i64 0] := h.rootB.chg hch (fun e => (h.foot q root hq e).2 rfl)
  rcases hd with ⟨rfl, rfl, rfl⟩ | ⟨p, c, j, rfl, hp, hb1, hj, rfl⟩
  · have := h1.set_ 1 v
    simpa [updL] using this
  · have hne := (h.foot p hb hp hb1).2
    have : updL L (p ++ [c]) v [] = L [] := by unfold updL; rw [if_neg (Ne.symm (snoc_ne _ _))]
    rw [this]
    exact h1.far (p := ⟨hb, j * 3 + 1, none⟩) (Ne.symm hne) _
/-- The head's cell lies outside its own row. -/
theorem CtM.head_ne (h : CtM w root F U C L) (hq : On U q) (hd : HeadAt U root C L q hb ho) : (L q).ownBlock ≠ some hb := by
  intro e
  rcases hd with ⟨rfl, rfl, rfl⟩ | ⟨p, c, j, rfl, hp, hb1, hj, rfl⟩
  · exact (h.foot _ _ hq e).2 rfl
  · have h1 := h.inj _ _ _ hq hp e hb1
    have h2 := congrArg List.length h1
    simp at h2

/-- A child is laid behind the others. -/
theorem CtM.push (h : CtM w root F U C L) (hq : On U q) (hd : HeadAt U root C L q hb ho) (hn : U (q ++ [c]) = 0) (hn2 : ∀ x, U (q ++ [c] ++ [x]) = 0) {v : Value}
    (hch : Chg (fun g => (L q).ownBlock = some g) w w2)
    (hv : w2.ownsRow 0 46 3 v ((C q).length + 1) (kids U L q (C q) ++ [.int .u8 (c.toNat : Int), .slice none 0 0, .int .i64 1]))
    (hvb : ∀ b, v.ownBlock = some b → (L q).ownBlock = some b ∨ w.heap.size ≤ b) :
    CtM (w2.setCell ⟨hb, ho + 1, none⟩ v) root (fun g => F g ∨ w.heap.size ≤ g) (updU U (q ++ [c]) 1) (fun r => if r = q ++ [c] then [] else if r = q then C q ++ [c] else C r) (updL (updL L q v) (q ++ [c]) (.slice none 0 0)) := by
  have hon : ∀ r, On (updU U (q ++ [c]) 1) r → r = q ++ [c] ∨ (r ≠ q ++ [c] ∧ On U r) := fun r hr => by
    by_cases h0 : r = q ++ [c]
    · exact Or.inl h0
    · refine Or.inr ⟨h0, ?_⟩
      rcases hr with h1 | h1
      · exact Or.inl h1
      · unfold updU at h1
        rw [if_neg h0] at h1
        exact Or.inr h1
  have hqq : q ≠ q ++ [c] := fun e => by have := congrArg List.length e; simp at this
  have hcn : c ∉ C q := fun hm => by have := (h.mem q hq c).1 hm; omega
  have hlt : hb < w.heap.size := World.block_lt_of_cell? w _ (h.head hd).1
  have hvne : v.ownBlock ≠ some hb := fun e => (hvb hb e).elim (fun e => h.head_ne hq hd e) (fun e => by omega)
  have hk1 : ∀ r, r ≠ q → r ≠ q ++ [c] → kids (updU U (q ++ [c]) 1) (updL (updL L q v) (q ++ [c]) (.slice none 0 0)) r (C r) = kids U (updL L q v) r (C r) := fun r hrq hrc => kids_congr (fun x _ => by
    have hx : r ++ [x] ≠ q ++ [c] := fun e => hrq (snoc_inj e).1
    constructor
    · unfold updU; rw [if_neg hx]
    · show (if r ++ [x] = q ++ [c] then _ else _) = _; rw [if_neg hx])
  have hold : ∀ r, On U r → r ≠ q ++ [c] → r ≠ q → ∀ b, (updL (updL L q v) (q ++ [c]) (.slice none 0 0) r).ownBlock = some b → (L r).ownBlock = some b := fun r _ h1 h2 b hb => by
    unfold updL at hb
    rw [if_neg h1, if_neg h2] at hb
    exact hb
  have hq2 : updL (updL L q v) (q ++ [c]) (.slice none 0 0) q = v := by
    unfold updL; rw [if_neg hqq, if_pos rfl]
  have hc2 : updL (updL L q v) (q ++ [c]) (.slice none 0 0) (q ++ [c]) = .slice none 0 0 := by
    unfold updL; rw [if_pos rfl]
  have hbl : ∀ r b, On U r → (L r).ownBlock = some b → b < w.heap.size := fun r b hr hb => ((h.row r hr).lt b hb).2
  refine ⟨fun r hr => ?_, fun r hr x => ?_, ?_, Or.inl h.rootF, fun r hr => ?_, fun r b hr hb => ?_, fun r s b hr hs hrb hsb => ?_⟩
  · rcases hon r hr with rfl | ⟨h0, h1⟩
    · simp
    · simp only [if_neg h0]
      split
      · rename_i h2; subst h2
        rw [List.nodup_append]
        exact ⟨h.nodup r h1, by simp, fun a ha b hb e => by
          rw [List.mem_singleton.1 hb] at e
          exact hcn (e ▸ ha)⟩
      · exact h.nodup r h1
  · rcases hon r hr with rfl | ⟨h0, h1⟩
    · have hx : q ++ [c] ++ [x] ≠ q ++ [c] := fun e => by have := congrArg List.length e; simp at this
      simp only [if_true]
      unfold updU
      rw [if_neg hx, hn2]
      simp
    · simp only [if_neg h0]
      split
      · rename_i h2; subst h2
        rw [List.mem_append, h.mem r h1, List.mem_singleton]
        unfold updU
        by_cases hxc : x = c
        · subst hxc; simp
        · have hx : r ++ [x] ≠ r ++ [c] := fun e => hxc (snoc_inj e).2
          rw [if_neg hx]
          simp [hxc]
      · rename_i h2
        rw [h.mem r h1]
        unfold updU
        rw [if_neg (fun e => h2 (snoc_inj e).1)]
  · have := h.root_ hq hd hch v
    have e : updL (updL L q v) (q ++ [c]) (.slice none 0 0) [] = updL L q v [] := by
      show (if [] = q ++ [c] then _ else _) = _
      rw [if_neg (Ne.symm (snoc_ne _ _))]
    rw [e]
    exact this
  · rcases hon r hr with rfl | ⟨h0, h1⟩
    · rw [hc2]
      simp only [if_true]
      exact World.ownsRow_nil _ _ _ _
    · simp only [if_neg h0]
      by_cases h2 : r = q
      · subst h2
        rw [hq2, if_pos rfl]
        have e : kids (updU U (r ++ [c]) 1) (updL (updL L r v) (r ++ [c]) (.slice none 0 0)) r (C r ++ [c]) = kids U L r (C r) ++ [.int .u8 (c.toNat : Int), .slice none 0 0, .int .i64 1] := by
          rw [kids_append]
          congr 1
          · exact kids_congr (fun x hx => by
              have hxc : r ++ [x] ≠ r ++ [c] := fun e => hcn ((snoc_inj e).2 ▸ hx)
              have hxr : r ++ [x] ≠ r := fun e => by have := congrArg List.length e; simp at this
              constructor
              · unfold updU; rw [if_neg hxc]
              · unfold updL; rw [if_neg hxc, if_neg hxr])
          · simp [kids, nodeC, updU, updL]
        rw [e, List.length_append]
        exact own_far hv hvne _
      · rw [if_neg h2, hk1 r h2 h0]
        have := h.rows hq hd hch v h1 h2
        have e : updL (updL L q v) (q ++ [c]) (.slice none 0 0) r = L r := by unfold updL; rw [if_neg h0, if_neg h2]
        rw [e]
        exact this
  · rcases hon r hr with rfl | ⟨h0, h1⟩
    · rw [hc2] at hb; simp [Value.ownBlock] at hb
    · by_cases h2 : r = q
      · subst h2
        rw [hq2] at hb
        rcases hvb b hb with h3 | h3
        · exact ⟨Or.inl (h.foot r b h1 h3).1, (h.foot r b h1 h3).2⟩
        · have := h.rootB.lt
          exact ⟨Or.inr h3, by omega⟩
      · have h3 := h.foot r b h1 (hold r h1 h0 h2 b hb)
        exact ⟨Or.inl h3.1, h3.2⟩
  · rcases hon r hr with rfl | ⟨h0, h1⟩
    · rw [hc2] at hrb; simp [Value.ownBlock] at hrb
    · rcases hon s hs with rfl | ⟨g0, g1⟩
      · rw [hc2] at hsb; simp [Value.ownBlock] at hsb
      · by_cases h2 : r = q
        · subst h2
          by_cases g2 : s = r
          · exact g2.symm
          · rw [hq2] at hrb
            have g3 := hold s g1 g0 g2 b hsb
            rcases hvb b hrb with h3 | h3
            · exact h.inj r s b h1 g1 h3 g3
            · have := hbl s b g1 g3; omega
        · have h3 := hold r h1 h0 h2 b hrb
          by_cases g2 : s = q
          · subst g2
            rw [hq2] at hsb
            rcases hvb b hsb with h4 | h4
            · exact h.inj r s b h1 g1 h3 h4
            · have := hbl r b h1 h3; omega
          · exact h.inj r s b h1 g1 h3 (hold s g1 g0 g2 b hsb)

theorem mem_eraseIdx_nodup : ∀ {l : Bs} {j : Nat} {c : UInt8}, l.Nodup → l[j]? = some c → ∀ x, x ∈ l.eraseIdx j ↔ x ∈ l ∧ x ≠ c
  | [], j, c, _, h, x => by simp at h
  | a :: l, 0, c, hn, h, x => by
    have : a = c := by simpa using h
    subst this
    have h1 := (List.nodup_cons.1 hn).1
    rw [List.eraseIdx_cons_zero, List.mem_cons]
    constructor
    · intro hx
      exact ⟨Or.inr hx, fun e => h1 (e ▸ hx)⟩
    · rintro ⟨h2 | h2, h3⟩
      · exact absurd h2 h3
      · exact h2
  | a :: l, j + 1, c, hn, h, x => by
    have hj : l[j]? = some c := by simpa using h
    have h1 := List.nodup_cons.1 hn
    have ih := mem_eraseIdx_nodup h1.2 hj x
    have hac : a ≠ c := fun e => h1.1 (e ▸ List.mem_of_getElem? hj)
    rw [List.eraseIdx_cons_succ, List.mem_cons, List.mem_cons, ih]
    constructor
    · rintro (h2 | h2)
      · exact ⟨Or.inl h2, fun e => hac (h2 ▸ e)⟩
      · exact ⟨Or.inr h2.1, h2.2⟩
    · rintro ⟨h2 | h2, h3⟩
      · exact Or.inl h2
      · exact Or.inr ⟨h2, h3⟩

/-- A child is taken out, with all that lies behind it. -/
theorem CtM.pull {U' : Bs → Nat} (h : CtM w root F U C L) (hq : On U q) (hd : HeadAt U root C L q hb ho) (hj : (C q)[j]? = some c)
    (hU1 : ∀ r, ¬ (q ++ [c]) <+: r → U' r = U r) (hU2 : ∀ r, (q ++ [c]) <+: r → U' r = 0) {v : Value}
    (hch : Chg (fun g => (L q).ownBlock = some g) w w2)
    (hv : w2.ownsRow 0 46 3 v ((C q).length - 1) (kids U L q ((C q).eraseIdx j)))
    (hvb : v.ownBlock = (L q).ownBlock) :
    CtM (w2.setCell ⟨hb, ho + 1, none⟩ v) root F U' (fun r => if r = q then (C q).eraseIdx j else C r) (updL L q v) := by
  have hon : ∀ r, On U' r → On U r ∧ ∀ x, (q ++ [c]) <+: r ++ [x] → r = q ∧ x = c := fun r hr => by
    have hnp : ¬ (q ++ [c]) <+: r := fun hp => by
      rcases hr with h1 | h1
      · subst h1
        exact snoc_ne _ _ (List.prefix_nil.1 hp)
      · rw [hU2 r hp] at h1; omega
    refine ⟨?_, fun x hx => ?_⟩
    · rcases hr with h1 | h1
      · exact Or.inl h1
      · rw [hU1 r hnp] at h1; exact Or.inr h1
    · rcases Nat.lt_or_ge (q ++ [c]).length (r ++ [x]).length with h1 | h1
      · exact absurd (List.prefix_of_prefix_length_le hx (List.prefix_append r [x]) (by simp at h1 ⊢; omega)) hnp
      · have := hx.eq_of_length_le h1
        have h2 := snoc_inj this
        exact ⟨h2.1.symm, h2.2.symm⟩
  have hl := (List.getElem?_eq_some_iff.1 hj).1
  have hvne : v.ownBlock ≠ some hb := fun e => h.head_ne hq hd (hvb ▸ e)
  have hob : ∀ r, (updL L q v r).ownBlock = (L r).ownBlock := fun r => by
    unfold updL
    split
    · rename_i h1; subst h1; exact hvb
    · rfl
  refine ⟨fun r hr => ?_, fun r hr x => ?_, h.root_ hq hd hch v, h.rootF, fun r hr => ?_, fun r b hr hb => ?_, fun r s b hr hs hrb hsb => ?_⟩
  · obtain ⟨h1, _⟩ := hon r hr
    split
    · rename_i h2; subst h2; exact (h.nodup r h1).eraseIdx j
    · exact h.nodup r h1
  · obtain ⟨h1, h2⟩ := hon r hr
    by_cases hp : (q ++ [c]) <+: r ++ [x]
    · obtain ⟨rfl, rfl⟩ := h2 x hp
      rw [if_pos rfl, hU2 _ hp, mem_eraseIdx_nodup (h.nodup r h1) hj]
      simp
    · rw [hU1 _ hp, ← h.mem r h1]
      split
      · rename_i h3; subst h3
        rw [mem_eraseIdx_nodup (h.nodup r h1) hj]
        refine ⟨fun h4 => h4.1, fun h4 => ⟨h4, fun e => hp (e ▸ List.prefix_refl _)⟩⟩
      · rfl
  · obtain ⟨h1, h2⟩ := hon r hr
    by_cases hrq : r = q
    · subst hrq
      have e1 : updL L r v r = v := by unfold updL; rw [if_pos rfl]
      have e2 : kids U' (updL L r v) r ((C r).eraseIdx j) = kids U L r ((C r).eraseIdx j) := kids_congr (fun x hx => by
        have hxc := ((mem_eraseIdx_nodup (h.nodup r h1) hj x).1 hx).2
        refine ⟨hU1 _ (fun hp => hxc (h2 x hp).2), ?_⟩
        unfold updL
        rw [if_neg (fun e => by have := congrArg List.length e; simp at this)])
      rw [e1, if_pos rfl, e2, List.length_eraseIdx_of_lt hl]
      exact own_far hv hvne _
    · have e1 : updL L q v r = L r := by unfold updL; rw [if_neg hrq]
      have e2 : kids U' (updL L q v) r (C r) = kids U (updL L q v) r (C r) := kids_congr (fun x _ => ⟨hU1 _ (fun hp => hrq (h2 x hp).1), rfl⟩)
      rw [e1, if_neg hrq, e2]
      exact h.rows hq hd hch v h1 hrq
  · rw [hob] at hb
    exact h.foot r b (hon r hr).1 hb
  · rw [hob] at hrb hsb
    exact h.inj r s b (hon r hr).1 (hon s hs).1 hrb hsb
end
end Go.Proofs.Ytaihafoopoaahaa
