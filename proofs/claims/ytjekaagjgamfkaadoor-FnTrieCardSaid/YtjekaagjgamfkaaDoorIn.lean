/- The walk of Trie.Insert. Under sizes alone. -/
import Derived.Test.YtjekaagjgamfkaaDoorTm2
import Derived.Test.YtjekaagjgamfkaaDoorBs
import Derived.Test.YtjekaagjgamfkaaDoorCp
import Derived.Test.YtjekaagjgamfkaaDoorIns
import Derived.RegionTactic
import Derived.BigRegion
namespace Go.Proofs.YtjekaagjgamfkaaDoor
open Go.RowKit T
attribute [local go_sem] S_size S_toList E_toList S_extract

/-- A short text of ASCII. -/
def T.GoodP (p : T.Bs) (M : Nat) : Prop := p.length ≤ M ∧ ∀ c ∈ p, c.toNat < 128
theorem T.GoodP.of_pre {p q : T.Bs} {M : Nat} (h : GoodP p M) (hq : q <+: p) : GoodP q M := ⟨Nat.le_trans hq.length_le h.1, fun c hc => h.2 c (hq.subset hc)⟩
/-- Paths and keys are short and of ASCII. -/
structure T.Bnd (s : St) (M : Nat) : Prop where
  node : ∀ b d, s.D b = some d → GoodP d.path M
  leaf : ∀ k p n, s.V k = some (p, n) → GoodP p M

/-- How the trie stands in the middle of an Insert. -/
structure InsSt (w wr : World) (B root M : Nat) (V : Nat → Option (T.Bs × Int)) (K : T.Bs) (n : Nat) (r : T.Bs) (s : St) (R : Nat → Value) (d : Nd) : Prop where
  mem : Mem wr B s R
  inv : Inv s root
  bnd : Bnd s M
  val : s.V = V
  node : s.D n = some d
  key : d.path ++ r = K
  below : Below B w wr

def strLen : Value → Nat
  | .string b => b.size
  | _ => 0

/-- What Insert hands back. -/
def InsertOut (w : World) (B root M : Nat) (s : St) (K : T.Bs) (e : Ending) (w' : World) : Prop :=
  ∃ k s' R' n, e = .returned (.pointer (some ⟨k, 0, none⟩)) ∧ Mem w' B s' R' ∧ Inv s' root ∧ Bnd s' M ∧ Below B w w' ∧ s'.V k = some (K, n) ∧
    (s'.V = s.V ∨ (s'.V = upd s.V k (K, 0) ∧ n = 0 ∧ s.V k = none ∧ ∀ k' n', s.V k' ≠ some (K, n')))

theorem T.Bnd.upd {s : St} {M b : Nat} {d d' : Nd} (h : Bnd s M) (hd : s.D b = some d) (hp : d'.path = d.path) : Bnd ⟨T.upd s.D b d', s.V⟩ M :=
  ⟨fun x dx hx => by
    rcases upd_some hx with ⟨rfl, rfl⟩ | ⟨_, hx⟩
    · rw [hp]; exact h.node _ d hd
    · exact h.node x dx hx, h.leaf⟩
theorem T.Bnd.key {s : St} {M k : Nat} {p : T.Bs} (h : Bnd s M) (hp : GoodP p M) : Bnd ⟨s.D, T.upd s.V k (p, 0)⟩ M :=
  ⟨h.node, fun x q n hx => by
    rcases upd_some hx with ⟨rfl, e⟩ | ⟨_, hx⟩
    · cases e; exact hp
    · exact h.leaf x q n hx⟩
theorem T.Bnd.node_ {s : St} {M b : Nat} {d : Nd} (h : Bnd s M) (hp : GoodP d.path M) : Bnd ⟨T.upd s.D b d, s.V⟩ M :=
  ⟨fun x dx hx => by
    rcases upd_some hx with ⟨rfl, rfl⟩ | ⟨_, hx⟩
    · exact hp
    · exact h.node x dx hx, h.leaf⟩

section
variable {w wr W : World} {B root M n k : Nat} {s sa : St} {R Ra : Nat → Value} {K r : T.Bs} {d : Nd}

/-- The key ends at a node that has no value of its own. -/
theorem InsSt.endNew (h : InsSt w wr B root M s.V K n [] sa Ra d) (hch : d.child = none) (hK : GoodP K M) (hB : B ≤ wr.heap.size) (hk : k = wr.heap.size) (hW : W = (wr.setCell ⟨n, 1, none⟩ (.pointer (some ⟨k, 0, none⟩))).alloc (.cells #[.int .i64 0] 3)) :
    InsertOut w B root M s K (.returned (.pointer (some ⟨k, 0, none⟩))) W := by
  have hKp : d.path = K := by have := h.key; rwa [List.append_nil] at this
  have hkn : sa.V k = none := h.mem.noLeaf (by omega)
  have hb := h.mem.node n d h.node
  have hnb := h.mem.nb n d h.node
  have hlt := hb.lt
  have hc : Chg (fun g => g = n ∨ (Ra n).ownBlock = some g) wr W := by
    rw [hW]
    exact ((Chg.refl _ wr).setCell (fun _ => Or.inl rfl) _).alloc _
  have hblk : Blk W n 44 #[Ra n, pv (some k)] := by
    rw [hW]
    exact (hb.set_ 1 _).alloc _
  have hleaf : Blk W k 3 #[.int .i64 0] := by
    rw [hW]
    exact Blk.new_ _ _ _ (by simp [hk])
  have hne : ∀ g, (Ra n).ownBlock = some g → ¬ g = n := fun g hg e => by
    obtain ⟨cs, hcs⟩ := own_blk (h.mem.row n d h.node) hg
    rw [e] at hcs
    exact hcs.ne_ hb (by decide) rfl
  have hcn : Chg (fun g => g = n) wr W := by
    rw [hW]
    exact ((Chg.refl (fun g => g = n) wr).setCell (p := ⟨n, 1, none⟩) (fun _ => rfl) _).alloc _
  have hrow : W.ownsRow B 64 3 (Ra n) d.es.length (edf d.es) := own_chg (h.mem.row n d h.node) hcn hne
  have hm1 := h.mem.change (d' := { d with child := some k }) h.node hc hblk hrow (Or.inl rfl)
  have hm2 := hm1.newLeaf (p := K) hleaf (by omega)
  refine ⟨k, _, _, 0, rfl, hm2, ?_, (h.bnd.upd (d' := { d with child := some k }) h.node rfl).key hK, ?_, upd_same _ _ _, Or.inr ⟨?_, rfl, ?_, ?_⟩⟩
  · have := h.inv.newChild h.node hch hkn
    rw [← hKp]
    exact this
  · rw [hW]
    exact (h.below.setCell (p := ⟨n, 1, none⟩) hnb _).alloc (by simpa using hB) _
  · show T.upd sa.V k (K, 0) = _
    rw [h.val]
  · rw [← h.val]; exact hkn
  · rw [← h.val, ← hKp]; exact h.inv.noChild h.node hch

theorem InsSt.endOld (h : InsSt w wr B root M s.V K n r sa Ra d) {k : Nat} {m : Int} (hk : sa.V k = some (K, m)) : InsertOut w B root M s K (.returned (.pointer (some ⟨k, 0, none⟩))) wr :=
  ⟨k, sa, Ra, m, rfl, h.mem, h.inv, h.bnd, h.below, hk, Or.inl h.val⟩

theorem InsSt.later {W : World} (h : InsSt w wr B root M s.V K n r sa Ra d) (hb : Below wr.heap.size wr W) (hB : B ≤ wr.heap.size) : InsSt w W B root M s.V K n r sa Ra d :=
  ⟨h.mem.below hb, h.inv, h.bnd, h.val, h.node, h.key, h.below.trans (hb.mono hB)⟩

/-- Behind the place that a search finds. -/
theorem Pos.gt {es : List Ed} {b i : Nat} (h : Pos es b i) (hs : es.Pairwise (fun e f => T.hd e.lab < T.hd f.lab)) (hf : found es b i = false) : ∀ e ∈ es.drop i, b < T.hd e.lab := by
  intro e he
  have h1 := h.hi e he
  rcases Nat.lt_or_ge b (T.hd e.lab) with h2 | h2
  · exact h2
  · exfalso
    have heq : T.hd e.lab = b := by omega
    obtain ⟨j, hj⟩ := List.mem_iff_getElem?.1 he
    rw [List.getElem?_drop] at hj
    cases hz : es[i]? with
    | none =>
      have := List.getElem?_eq_none_iff.1 hz
      have := (List.getElem?_eq_some_iff.1 hj).1
      omega
    | some f =>
      have hfm : f ∈ es.drop i := List.mem_iff_getElem?.2 ⟨0, by rw [List.getElem?_drop]; exact hz⟩
      have h3 := h.hi f hfm
      have h4 := (sort_at hs hz).2 e (by exact he)
      have h5 : T.hd f.lab = b := by omega
      unfold found at hf
      rw [hz] at hf
      simp [h5] at hf

/-- A new edge with a new value at its end. -/
theorem InsSt.endEdge {w3 : World} {i : Nat} {v' : Value} (h : InsSt w wr B root M s.V K n r sa Ra d) (hr : r ≠ []) (hi : Pos d.es (T.hd r) i) (hfd : found d.es (T.hd r) i = false) (hK : GoodP K M) (hk : sa.V k = none) (hleaf : Blk wr k 3 #[.int .i64 0]) (hB : B ≤ k)
    (hins : w3.ownsRow B 64 3 v' (d.es.take i ++ ⟨r, .leaf k⟩ :: d.es.drop i).length (edf (d.es.take i ++ ⟨r, .leaf k⟩ :: d.es.drop i))) (hc : Chg (fun g => (Ra n).ownBlock = some g) wr w3) (hv : v'.ownBlock = (Ra n).ownBlock ∨ ∃ g, v'.ownBlock = some g ∧ wr.heap.size ≤ g) :
    InsertOut w B root M s K (.returned (.pointer (some ⟨k, 0, none⟩))) (w3.setCell ⟨n, 0, none⟩ v') := by
  have hb := h.mem.node n d h.node
  have hnb := h.mem.nb n d h.node
  have hno : ∀ g, (Ra n).ownBlock = some g → ¬ g = n := fun g hg e => by
    obtain ⟨cs, hcs⟩ := own_blk (h.mem.row n d h.node) hg
    rw [e] at hcs
    exact hcs.ne_ hb (by decide) rfl
  have hb3 : Blk w3 n 44 #[Ra n, pv d.child] := hb.chg hc (fun e => hno n e rfl)
  have hv3 : ∀ g, v'.ownBlock = some g → ¬ g = n := fun g hg e => by
    obtain ⟨cs, hcs⟩ := own_blk hins hg
    rw [e] at hcs
    exact hcs.ne_ hb3 (by decide) rfl
  have hc2 : Chg (fun g => g = n ∨ (Ra n).ownBlock = some g) wr (w3.setCell ⟨n, 0, none⟩ v') := (hc.mono (T := fun g => g = n ∨ (Ra n).ownBlock = some g) (fun _ _ h => Or.inr h)).setCell (p := ⟨n, 0, none⟩) (fun _ => Or.inl rfl) v'
  have hblk : Blk (w3.setCell ⟨n, 0, none⟩ v') n 44 #[v', pv d.child] := hb3.set_ 0 v'
  have hc3 : Chg (fun g => g = n) w3 (w3.setCell ⟨n, 0, none⟩ v') := (Chg.refl (fun g => g = n) w3).setCell (p := ⟨n, 0, none⟩) (fun _ => rfl) v'
  have hrow := own_chg hins hc3 hv3
  have hleaf3 : Blk (w3.setCell ⟨n, 0, none⟩ v') k 3 #[.int .i64 0] := by
    refine hleaf.chg hc2 ?_
    rintro (e | e)
    · exact hleaf.ne_ (e ▸ hb) (by decide) rfl
    · obtain ⟨cs, hcs⟩ := own_blk (h.mem.row n d h.node) e
      exact hleaf.ne_ hcs (by decide) rfl
  obtain ⟨h1, h2⟩ := h.inv.newEdge h.node hr hk hi.lo (hi.gt (h.inv.sort n d h.node) hfd)
  have hm1 := h.mem.change (d' := { d with es := d.es.take i ++ ⟨r, .leaf k⟩ :: d.es.drop i }) h.node hc2 hblk hrow hv
  have hm2 := hm1.newLeaf (p := K) hleaf3 hB
  have hkey := h.key
  refine ⟨k, _, _, 0, rfl, hm2, ?_, (h.bnd.upd (d' := { d with es := d.es.take i ++ ⟨r, .leaf k⟩ :: d.es.drop i }) h.node rfl).key hK, ?_, upd_same _ _ _, Or.inr ⟨?_, rfl, ?_, ?_⟩⟩
  · rw [← hkey]; exact h1
  · refine Below.setCell (p := ⟨n, 0, none⟩) ?_ hnb _
    refine h.below.trans (hc.below (Nat.le_trans hnb (Nat.le_of_lt hb.lt)) (fun i hi => ?_))
    obtain ⟨_, g', cap, e, hg, _⟩ | ⟨_, h0⟩ : (∃ (_ : Unit) (g cap : Nat), Ra n = .slice (some ⟨g, 0, none⟩) d.es.length cap ∧ B ≤ g ∧ True) ∨ (Ra n = .slice none 0 0 ∧ True) := by
      rcases (h.mem.row n d h.node).2 with ⟨e, _⟩ | ⟨g, cap, _, e, hg, _⟩
      · exact Or.inr ⟨e, trivial⟩
      · exact Or.inl ⟨(), g, cap, e, hg, trivial⟩
    · rw [e] at hi
      have : g' = i := by simpa [Value.ownBlock] using hi
      omega
    · simp_all [Value.ownBlock]
  · show T.upd sa.V k (K, 0) = _
    rw [h.val]
  · rw [← h.val]; exact hk
  · intro k' n' hv'
    rw [← h.val, ← hkey] at hv'
    exact h2 k' n' hv'

theorem found_at {es : List Ed} {b i : Nat} (h : found es b i = true) : ∃ e, es[i]? = some e ∧ T.hd e.lab = b := by
  unfold found at h
  cases hz : es[i]? with
  | none => rw [hz] at h; cases h
  | some e => rw [hz] at h; exact ⟨e, rfl, by simpa using h⟩
theorem T.Bnd.lab {s : St} {M b : Nat} {d : Nd} {e : Ed} {root : Nat} (h : Bnd s M) (hv : Inv s root) (hd : s.D b = some d) (he : e ∈ d.es) : GoodP (d.path ++ e.lab) M := by
  cases ht : e.tg with
  | node b' =>
    obtain ⟨d', h1, h2⟩ := hv.tgN b d e b' hd he ht
    rw [← h2]; exact h.node b' d' h1
  | leaf k =>
    obtain ⟨n, h1⟩ := hv.tgL b d e k hd he ht
    exact h.leaf k _ n h1
theorem Cp.pos {a b : T.Bs} {c : Nat} (h : Cp a b c) (ha : a ≠ []) (hb : b ≠ []) (he : T.hd a = T.hd b) : 1 ≤ c := by
  rcases Nat.eq_zero_or_pos c with h0 | h0
  · exfalso
    subst h0
    refine h.ne (List.length_pos_iff.2 ha) (List.length_pos_iff.2 hb) ?_
    cases a with
    | nil => exact absurd rfl ha
    | cons x a =>
      cases b with
      | nil => exact absurd rfl hb
      | cons y b =>
        have : x.toNat = y.toNat := he
        simp [UInt8.toNat_inj.1 this]
  · exact h0

/-- What is read of a node and its i-th edge. -/
theorem InsSt.view {i g c : Nat} {e : Ed} (h : InsSt w wr B root M s.V K n r sa Ra d) (he : d.es[i]? = some e) (hR : Ra n = .slice (some ⟨g, 0, none⟩) d.es.length c) :
    wr.cell? ⟨n, 0, none⟩ = some (.slice (some ⟨g, 0, none⟩) d.es.length c) ∧ n < wr.heap.size ∧ g < wr.heap.size ∧ wr.cell? ⟨g, i * 3, none⟩ = some (.string (S e.lab)) ∧ wr.cell? ⟨g, i * 3 + 1, none⟩ = some (pv e.tg.nodeP) ∧ wr.cell? ⟨g, i * 3 + 2, none⟩ = some (pv e.tg.leafP) ∧
      wr.frozen? ⟨g, i * 3, none⟩ = false ∧ wr.frozen? ⟨g, i * 3 + 1, none⟩ = false ∧ wr.frozen? ⟨g, i * 3 + 2, none⟩ = false := by
  have hb := h.mem.node n d h.node
  have hrow := h.mem.row n d h.node
  obtain ⟨A, c', hR', _, _, hrd⟩ := h.mem.rd h.node
  have e1 : A = some ⟨g, 0, none⟩ := by rw [hR] at hR'; injection hR' with e1; exact e1.symm
  subst e1
  obtain ⟨g', hA, hg, k0, k1, k2⟩ := hrd i e he
  have : g = g' := by injection hA with hA; injection hA
  subst this
  rw [hR] at hrow
  refine ⟨by rw [hb.cell, ← hR]; rfl, hb.lt, hg, k0, k1, k2, hrow.frozenAt _, hrow.frozenAt _, hrow.frozenAt _⟩

theorem InsSt.descend {i cm b' : Nat} {lab : T.Bs} (h : InsSt w wr B root M s.V K n r sa Ra d) (he : d.es[i]? = some ⟨lab, .node b'⟩) (hcm : Cp lab r cm) (hl : cm = lab.length) : ∃ d2, InsSt w wr B root M s.V K b' (r.drop cm) sa Ra d2 := by
  obtain ⟨d2, h1, h2⟩ := h.inv.tgN n d _ b' h.node (List.mem_of_getElem? he) rfl
  refine ⟨d2, h.mem, h.inv, h.bnd, h.val, h1, ?_, h.below⟩
  rw [h2, ← h.key, List.append_assoc]
  congr 1
  have := hcm.eq
  rw [hl, List.take_length] at this
  show lab ++ _ = r
  conv => lhs; lhs; rw [this]
  rw [hl, List.take_append_drop]

theorem InsSt.ex (h : InsSt w wr B root M s.V K n r sa Ra d) : Hid (∃ sa Ra da, InsSt w wr B root M s.V K n r sa Ra da) := ⟨sa, Ra, d, h⟩
theorem strLen_S (l : T.Bs) : strLen (.string (S l)) = l.length := S_size l
theorem InsSt.endLeaf {i cm k : Nat} {lab : T.Bs} (h : InsSt w wr B root M s.V K n r sa Ra d) (he : d.es[i]? = some ⟨lab, .leaf k⟩) (hcm : Cp lab r cm) (hl : cm = lab.length) (hr : cm = r.length) : InsertOut w B root M s K (.returned (.pointer (some ⟨k, 0, none⟩))) wr := by
  obtain ⟨m, h1⟩ := h.inv.tgL n d _ k h.node (List.mem_of_getElem? he) rfl
  refine h.endOld (m := m) ?_
  rw [h1]
  have := hcm.eq
  rw [List.take_of_length_le (by omega), List.take_of_length_le (by omega)] at this
  show some (d.path ++ lab, m) = _
  rw [this, h.key]

theorem upd_comm {α : Type} (f : Nat → Option α) {i j : Nat} (a b : α) (h : i ≠ j) : T.upd (T.upd f i a) j b = T.upd (T.upd f j b) i a := by
  funext x
  unfold T.upd
  by_cases h1 : x = i
  · subst h1; simp [h]
  · simp [h1]

/-- An edge is cut; the new node lies below it. -/
theorem InsSt.cut {W : World} {i g c cm nb : Nat} {lab : T.Bs} {tg : Tg} {dn : Nd} {vn : Value} (h : InsSt w wr B root M s.V K n r sa Ra d) (he : d.es[i]? = some ⟨lab, tg⟩) (hR : Ra n = .slice (some ⟨g, 0, none⟩) d.es.length c) (hcm : Cp lab r cm) (hc1 : 1 ≤ cm)
    (hdp : dn.path = d.path ++ lab.take cm) (hdn : (cm < lab.length ∧ dn.child = none ∧ dn.es = [⟨lab.drop cm, tg⟩]) ∨ (cm = lab.length ∧ ∃ k, tg = .leaf k ∧ dn.child = some k ∧ dn.es = []))
    (hB : B ≤ wr.heap.size) (hnb : wr.heap.size ≤ nb) (hc : Chg (fun x => x = g) wr W) (hrow : W.ownsRow B 64 3 (Ra n) d.es.length (edf (d.es.set i ⟨lab.take cm, .node nb⟩)))
    (hn : Blk W nb 44 #[vn, pv dn.child]) (hnr : W.ownsRow B 64 3 vn dn.es.length (edf dn.es)) (hfr : ∀ g', vn.ownBlock = some g' → wr.heap.size ≤ g') :
    ∃ sa' Ra', InsSt w W B root M s.V K nb (r.drop cm) sa' Ra' dn := by
  have hb := h.mem.node n d h.node
  have hno : sa.D nb = none := h.mem.noNode hnb
  have hnn : n ≠ nb := fun e => by have := hb.lt; omega
  have hog : (Ra n).ownBlock = some g := by rw [hR]; rfl
  have hng : ¬ n = g := fun e => by
    obtain ⟨cs, hcs⟩ := own_blk (h.mem.row n d h.node) hog
    rw [← e] at hcs
    exact hcs.ne_ hb (by decide) rfl
  have hm1 := h.mem.change (d' := { d with es := d.es.set i ⟨lab.take cm, .node nb⟩ }) (v' := Ra n) h.node (hc.mono (fun x _ hx => Or.inr (by rw [hx]; exact hog))) (hb.chg hc hng) (by simpa using hrow) (Or.inl rfl)
  have hno1 : (T.upd sa.D n { d with es := d.es.set i ⟨lab.take cm, .node nb⟩ }) nb = none := by rw [upd_ne _ _ hnn.symm]; exact hno
  have hm2 := hm1.newNode (nb := nb) (dn := dn) hn hnr (Nat.le_trans hB hnb) hno1 (fun x dx g' hx hg' e => by
    have h1 := hfr g' e
    by_cases hxn : x = n
    · subst hxn
      simp only [if_pos] at hg'
      have := h.mem.rowLt h.node hg'
      omega
    · simp only [if_neg hxn] at hg'
      rcases upd_some hx with ⟨e1, _⟩ | ⟨_, hx⟩
      · exact hxn e1
      · have := h.mem.rowLt hx hg'
        omega)
  have hinv := h.inv.newNode (nb := nb) (dn := dn) h.node hno he hc1 hcm.la hdp hdn
  have hin := (List.getElem?_eq_some_iff.1 he).1
  have hlab := h.bnd.lab h.inv h.node (List.mem_of_getElem? he)
  have hpl : GoodP dn.path M := by
    rw [hdp]
    exact hlab.of_pre (pre_app (List.take_prefix _ _))
  have hbd := (h.bnd.upd (d' := { d with es := d.es.set i ⟨lab.take cm, .node nb⟩ }) h.node rfl).node_ (b := nb) (d := dn) hpl
  have hcomm : T.upd (T.upd sa.D nb dn) n { d with es := d.es.set i ⟨lab.take cm, .node nb⟩ } = T.upd (T.upd sa.D n { d with es := d.es.set i ⟨lab.take cm, .node nb⟩ }) nb dn := upd_comm _ _ _ hnn.symm
  refine ⟨_, _, hm2, ?_, hbd, h.val, upd_same _ _ _, ?_, ?_⟩
  · rw [hcomm] at hinv
    exact hinv
  · rw [hdp, hcm.eq, List.append_assoc, List.take_append_drop, h.key]
  · refine h.below.trans (hc.below hB (fun x hx => ?_))
    obtain ⟨g', cap, e, hg', _⟩ := (h.mem.row n d h.node).form (by omega)
    rw [hR] at e
    have : g = g' := by injection e with e; injection e with e; injection e
    omega

theorem InsSt.cutW {i g c cm : Nat} {lab : T.Bs} {tg : Tg} (h : InsSt w wr B root M s.V K n r sa Ra d) (he : d.es[i]? = some ⟨lab, tg⟩) (hR : Ra n = .slice (some ⟨g, 0, none⟩) d.es.length c) (hcm : Cp lab r cm) (hc1 : 1 ≤ cm) (hlt : cm < lab.length) (hB : B ≤ wr.heap.size) :
    ∃ sa' Ra', InsSt w ((((((wr.setCell ⟨g, i * 3, none⟩ (.string (S (lab.take cm)))).setCell ⟨g, i * 3 + 1, none⟩ (.pointer (some ⟨wr.heap.size + 1 + 1, 0, none⟩))).setCell ⟨g, i * 3 + 2, none⟩ (.pointer none)).alloc (.cells #[.string (S (lab.drop cm)), pv tg.nodeP, pv tg.leafP] 64)).alloc (.cells #[.string (S (lab.drop cm)), pv tg.nodeP, pv tg.leafP] 64)).alloc
      (.cells #[.slice (some ⟨wr.heap.size + 1, 0, none⟩) 1 1, .pointer none] 44)).drew.drew B root M s.V K (wr.heap.size + 1 + 1) (r.drop cm) sa' Ra' ⟨d.path ++ lab.take cm, none, [⟨lab.drop cm, tg⟩]⟩ := by
  have hin := (List.getElem?_eq_some_iff.1 he).1
  have hrow := own_setEd (i := i) (e := ⟨lab.take cm, .node (wr.heap.size + 1 + 1)⟩) (hR ▸ h.mem.row n d h.node) hin
  refine h.cut (vn := .slice (some ⟨wr.heap.size + 1, 0, none⟩) 1 1) he hR hcm hc1 rfl (Or.inl ⟨hlt, rfl, rfl⟩) hB (by omega) ?_ ?_ ?_ ?_ ?_
  · exact (((((((((Chg.refl (fun x => x = g) wr).setCell (p := ⟨g, i * 3, none⟩) (fun _ => rfl) _).setCell (p := ⟨g, i * 3 + 1, none⟩) (fun _ => rfl) _).setCell (p := ⟨g, i * 3 + 2, none⟩) (fun _ => rfl) _).alloc _).alloc _).alloc _)).drew).drew
  · rw [hR]
    exact ((hrow.alloc _).alloc _).alloc _
  · exact Blk.new_ _ _ _ (by simp)
  · refine World.ownsRow.alloc ?_ _
    have hlit := World.ownsRow_lit (base := B) (e := 64) (size := 3) (((wr.setCell ⟨g, i * 3, none⟩ (.string (S (lab.take cm)))).setCell ⟨g, i * 3 + 1, none⟩ (.pointer (some ⟨wr.heap.size + 1 + 1, 0, none⟩))).setCell ⟨g, i * 3 + 2, none⟩ (.pointer none) |>.alloc (.cells #[.string (S (lab.drop cm)), pv tg.nodeP, pv tg.leafP] 64)) (edc ⟨lab.drop cm, tg⟩).toArray 1 (by simp; omega) (by simp [maxLen]) rfl
    simpa [edf, edc] using hlit
  · intro g' hg'
    have : wr.heap.size + 1 = g' := by simpa [Value.ownBlock] using hg'
    omega
end

set_option linter.unusedSimpArgs false in
set_option linter.unusedVariables false in
set_option maxHeartbeats 4000000 in
set_option maxRecDepth 100000 in
theorem insert_walk (B root M : Nat) (s : St) (R : Nat → Value) (K : T.Bs) (w : World) (hm : Mem w B s R) (hv : Inv s root) (hbd : Bnd s M) (hKG : GoodP K M) (hM : M ≤ 1099511627776) (hBw : B ≤ w.heap.size) :
    Calls Tryd.prog 14 #[.pointer (some ⟨root, 0, none⟩), .string (S K)] w (InsertOut w B root M s K) := by
  obtain ⟨d0, hd0, hp0⟩ := hv.root
  have hK := hKG.1
  have HKG := hide hKG
  clear hKG
  have hst : InsSt w w B root M s.V K root K s R d0 := ⟨hm, hv, hbd, rfl, hd0, by rw [hp0]; rfl, Below.refl _ _⟩
  have HST := hide hst
  clear hm hv hbd hd0 hp0 hst
  go_enter Tryd.func14, Tryd.ntmps14
  go_wp2
  go_loopw [1, 5] (fun s1 s5 wr => ∃ (n : Nat) (r : T.Bs), s1 = .string (S r) ∧ s5 = .pointer (some ⟨n, 0, none⟩) ∧ r.length ≤ K.length ∧ B ≤ wr.heap.size ∧ Hid (∃ sa Ra da, InsSt w wr B root M s.V K n r sa Ra da)) (fun s1 _ _ => strLen s1)
  case atStart => exact ⟨root, K, rfl, rfl, Nat.le_refl _, hBw, (⟨s, R, d0, HST.out⟩ : ∃ sa Ra da, InsSt w w B root M s.V K root K sa Ra da)⟩
  case round =>
    obtain ⟨n, r, rfl, rfl, hrl, hBr, HI⟩ := hrel
    obtain ⟨sa, Ra, d, hs⟩ := HI.out
    have HS := hide hs
    obtain ⟨A, c, hR, hc1, hc2, hrd⟩ := hs.mem.rd hs.node
    have hb := hs.mem.node n d hs.node
    have c1 : wr.cell? ⟨n, 1, none⟩ = some (pv d.child) := by rw [hb.cell]; rfl
    have c0 : wr.cell? ⟨n, 0, none⟩ = some (.slice A d.es.length c) := by rw [hb.cell, ← hR]; rfl
    have f1 := hb.frozen 1
    have f0 := hb.frozen 0
    have hn := hb.lt
    have HB := hide hb
    have HR := hide hR
    have HRD := hide hrd
    clear hb hR hrd HI hs hc2
    by_cases hr0 : r = []
    · subst hr0
      cases hch : d.child with
      | none =>
        rw [hch, pv_none] at c1
        have HCH := hide hch
        clear hch
        go_wp2
        go_ret
        exact HS.out.endNew HCH.out HKG.out hBr rfl rfl
      | some k =>
        rw [hch, pv_some] at c1
        obtain ⟨m, hm⟩ := HS.out.inv.chi n d k HS.out.node hch
        have hkey := HS.out.key
        rw [List.append_nil] at hkey
        have HM := hide (hkey ▸ hm)
        clear hch hm hkey
        go_wp2
        go_ret
        exact HS.out.endOld HM.out
    · obtain ⟨x, hx0, hxh⟩ := hd_at hr0
      have hix : ∀ W : World, (Instr.index 9 (.string (S r)) (.int .i64 0)).run Tryd.prog W = .ok (.int .u8 (x.toNat : Int)) W := index_S (k := 0) hx0
      have hre : r.isEmpty = false := by simpa using hr0
      have HX := hide hxh
      have HR0 := hide hr0
      clear hx0 hxh hr0
      have hfind := find_any B root n sa Ra d x wr HS.out.mem HS.out.inv HS.out.node
      have HF := hide hfind
      clear hfind
      go_wp2_with fail
      refine HF.out.mono ?_
      clear HF
      rintro e w1 ⟨i, rfl, hpos, hb1⟩
      have HP := hide hpos
      have HB1 := hide hb1
      have hs1 := hb1.size
      clear hpos hb1
      have c1' : w1.cell? ⟨n, 1, none⟩ = some (pv d.child) := (HB1.out.cell (p := ⟨n, 1, none⟩) hn).trans c1
      have c0' : w1.cell? ⟨n, 0, none⟩ = some (.slice A d.es.length c) := (HB1.out.cell (p := ⟨n, 0, none⟩) hn).trans c0
      have f1' : w1.frozen? ⟨n, 1, none⟩ = false := (HB1.out.frozen (p := ⟨n, 1, none⟩) hn).trans f1
      have f0' : w1.frozen? ⟨n, 0, none⟩ = false := (HB1.out.frozen (p := ⟨n, 0, none⟩) hn).trans f0
      have hn1 : n < w1.heap.size := by omega
      clear c1 c0 f1 f0
      cases hfd : found d.es x.toNat i with
      | false =>
        have HFD := hide hfd
        clear hfd
        go_wp2_with fail
        have hs2 := HS.out.later (W := (w1.alloc (.cells #[.int .i64 0] 3)).alloc (.cells (edc ⟨r, .leaf w1.heap.size⟩).toArray 64)) ((HB1.out.alloc hs1 _).alloc (by simp; omega) _) hBr
        have HS2 := hide hs2
        have hins := insert_any B i (Ra n) d.es ⟨r, .leaf w1.heap.size⟩ (w1.heap.size + 1) _ (hs2.mem.row n d hs2.node) (Blk.new_ _ _ _ (by simp)) (fun e => by
          have := hs2.mem.rowLt hs2.node e
          have h3 := (HS.out.mem.below HB1.out).rowLt HS.out.node e
          omega) (by simp; omega) HP.out.le (HS.out.inv.few HS.out.node)
        rw [HR.out] at hins
        obtain ⟨es', hes⟩ : ∃ es', es' = d.es.take i ++ ⟨r, .leaf w1.heap.size⟩ :: d.es.drop i := ⟨_, rfl⟩
        rw [← hes] at hins
        have HES := hide hes
        have HINS := hide hins
        clear hs2 hins hes
        refine HINS.out.mono ?_
        clear HINS
        rintro e w3 ⟨v', rfl, ho3, hc3, hv3⟩
        obtain ⟨A3, cap3, rfl, _, _⟩ := own_cap ho3
        rw [← HR.out] at hc3 hv3
        have hb2 := HS2.out.mem.node n d HS2.out.node
        have hnn : ¬ (Ra n).ownBlock = some n := fun e => by
          obtain ⟨cs, hcs⟩ := own_blk (HS2.out.mem.row n d HS2.out.node) e
          exact hcs.ne_ hb2 (by decide) rfl
        have hb3 := hb2.chg hc3 hnn
        have c0'' : w3.cell? ⟨n, 0, none⟩ = some (Ra n) := by rw [hb3.cell]; rfl
        have f0'' := hb3.frozen 0
        have hn3 := hb3.lt
        have HO3 := hide ho3
        have HC3 := hide hc3
        have HV3 := hide hv3
        clear ho3 hc3 hv3 hb2 hb3 hnn
        go_wp2
        go_ret
        have hl : Blk ((w1.alloc (.cells #[.int .i64 0] 3)).alloc (.cells (edc ⟨r, .leaf w1.heap.size⟩).toArray 64)) w1.heap.size 3 #[.int .i64 0] := (Blk.new w1 3 #[.int .i64 0]).alloc _
        exact HS2.out.endEdge HR0.out (HX.out ▸ HP.out) (HX.out ▸ HFD.out) HKG.out ((HS.out.mem.below HB1.out).noLeaf (Nat.le_refl _)) hl (by omega) (HES.out ▸ HO3.out) HC3.out HV3.out
      | true =>
        obtain ⟨e, he, heh⟩ := found_at hfd
        obtain ⟨g, hA, hg, k0, k1, k2⟩ := (HRD.out.below HB1.out) i e he
        have hil := (List.getElem?_eq_some_iff.1 he).1
        have hlab := (HS.out.bnd.lab HS.out.inv HS.out.node (List.mem_of_getElem? he)).1
        have hll : e.lab.length ≤ M := by rw [List.length_append] at hlab; omega
        have hcp := fun (W : World) => cp_any e.lab (r) W (by omega) (by omega)
        have hel := HS.out.inv.lab n d e HS.out.node (List.mem_of_getElem? he)
        have HE := hide he
        have HEH := hide heh
        have HCP := hide hcp
        have HML := hide (show r.length ≤ M by omega)
        have HEL := hide hel
        have HLAB := hide hlab
        subst hA
        clear hfd he heh hcp hel hlab hll
        have c1l := HCP.out w1
        obtain ⟨lab, tg⟩ := e
        cases tg with
        | node b' =>
          have k1' : w1.cell? ⟨g, i * 3 + 1, none⟩ = some (.pointer (some ⟨b', 0, none⟩)) := k1
          have k2' : w1.cell? ⟨g, i * 3 + 2, none⟩ = some (.pointer none) := k2
          clear k1 k2 c1l
          go_wp2_with fail
          refine (HCP.out _).mono ?_
          rintro _ w2 ⟨cm, rfl, hcm, hb2⟩
          have hs2 := HS.out.later (HB1.out.trans ((((Below.refl w1.heap.size w1).alloc (Nat.le_refl _) _).trans (hb2.mono (by simp))).mono hs1)) hBr
          have hcm1 := hcm.pos HEL.out HR0.out (HEH.out.trans HX.out.symm)
          have hcl := hcm.la
          have hcr := hcm.lb
          have HCM := hide hcm
          have HS2 := hide hs2
          have HB2 := hide hb2
          obtain ⟨v0, v1, v2, v3, v4, v5, v6, v7, v8⟩ := hs2.view HE.out HR.out
          have hsz2 := hb2.size
          simp only [World.size_alloc] at hsz2
          have hx2 : Blk w2 w1.heap.size 64 #[.string (S lab), .pointer (some ⟨b', 0, none⟩), .pointer none] := (Blk.new w1 64 _).below hb2 (by simp)
          have x0 : w2.cell? ⟨w1.heap.size, 0, none⟩ = some (.string (S lab)) := by rw [hx2.cell]; rfl
          have x1 : w2.cell? ⟨w1.heap.size, 1, none⟩ = some (.pointer (some ⟨b', 0, none⟩)) := by rw [hx2.cell]; rfl
          have x2 : w2.cell? ⟨w1.heap.size, 2, none⟩ = some (.pointer none) := by rw [hx2.cell]; rfl
          have xl := hx2.lt
          have hBr2 : B ≤ w2.heap.size := by omega
          simp only [pv_some, pv_none, Tg.nodeP, Tg.leafP] at v4 v5
          clear hcm hs2 hb2 hx2 c1' c0' f0' f1' k0 k1' k2'
          by_cases hlt : cm < lab.length
          · have hd1 : decide (cm < lab.length) = true := decide_eq_true hlt
            have hrm' : (r.drop cm).length < r.length := by rw [List.length_drop]; omega
            have HRM := hide hrm'
            have HRL := hide (Nat.le_trans (Nat.le_of_lt hrm') hrl)
            have HLT := hide hlt
            clear hrm' hlt
            go_wp2
            go_region
            go_wp2
            have xl1 : w1.heap.size < w2.heap.size + 1 := by omega
            have xl2 : w1.heap.size < w2.heap.size + 1 + 1 := by omega
            have vn1 : n < w2.heap.size + 1 := by omega
            have vn2 : n < w2.heap.size + 1 + 1 := by omega
            have vg1 : g < w2.heap.size + 1 := by omega
            have vg2 : g < w2.heap.size + 1 + 1 := by omega
            have hng : ¬ n = g := fun e => by
              obtain ⟨cs, hcs⟩ := own_blk (g := g) (HS2.out.mem.row n d HS2.out.node) (by rw [HR.out]; rfl)
              rw [← e] at hcs
              exact hcs.ne_ (HS2.out.mem.node n d HS2.out.node) (by decide) rfl
            have hgn : ¬ g = n := fun e => hng e.symm
            go_region
            go_wp2
            go_roundw
            case measure => rw [strLen_S, strLen_S]; exact HRM.out
            case rel =>
              obtain ⟨sa', Ra', h9⟩ := HS2.out.cutW HE.out HR.out HCM.out hcm1 HLT.out hBr2
              exact ⟨w2.heap.size + 1 + 1, _, rfl, rfl, HRL.out, by simp; omega, h9.ex⟩
          · have heq : cm = lab.length := by omega
            have HEQ := hide heq
            obtain ⟨d2, hs3⟩ := HS2.out.descend HE.out HCM.out HEQ.out
            have HS3 := hide hs3
            have hd1 : decide (cm < lab.length) = false := decide_eq_false hlt
            clear heq hs3 hlt
            have hrl' : (r.drop cm).length ≤ K.length := by rw [List.length_drop]; omega
            have hrm' : (r.drop cm).length < r.length := by rw [List.length_drop]; omega
            have HRL := hide hrl'
            have HRM := hide hrm'
            clear hrl' hrm'
            by_cases hkl : cm = r.length
            · have hd2 : ((cm : Int) == (r.length : Int)) = true := by rw [hkl]; simp
              clear hkl
              go_wp2
              go_roundw
              case rel => exact ⟨b', _, rfl, rfl, HRL.out, hBr2, HS3.out.ex⟩
              case measure => rw [strLen_S, strLen_S]; exact HRM.out
            · have hd2 : ((cm : Int) == (r.length : Int)) = false := by simp; omega
              clear hkl
              go_wp2
              go_roundw
              case rel => exact ⟨b', _, rfl, rfl, HRL.out, hBr2, HS3.out.ex⟩
              case measure => rw [strLen_S, strLen_S]; exact HRM.out
        | leaf k =>
          have k1' : w1.cell? ⟨g, i * 3 + 1, none⟩ = some (.pointer none) := k1
          have k2' : w1.cell? ⟨g, i * 3 + 2, none⟩ = some (.pointer (some ⟨k, 0, none⟩)) := k2
          clear k1 k2 c1l
          go_wp2_with fail
          refine (HCP.out _).mono ?_
          rintro _ w2 ⟨cm, rfl, hcm, hb2⟩
          have hs2 := HS.out.later (HB1.out.trans ((((Below.refl w1.heap.size w1).alloc (Nat.le_refl _) _).trans (hb2.mono (by simp))).mono hs1)) hBr
          have hcm1 := hcm.pos HEL.out HR0.out (HEH.out.trans HX.out.symm)
          have hcl := hcm.la
          have hcr := hcm.lb
          have HCM := hide hcm
          have HS2 := hide hs2
          have HB2 := hide hb2
          obtain ⟨v0, v1, v2, v3, v4, v5, v6, v7, v8⟩ := hs2.view HE.out HR.out
          have hsz2 := hb2.size
          simp only [World.size_alloc] at hsz2
          have hx2 : Blk w2 w1.heap.size 64 #[.string (S lab), .pointer none, .pointer (some ⟨k, 0, none⟩)] := (Blk.new w1 64 _).below hb2 (by simp)
          have x0 : w2.cell? ⟨w1.heap.size, 0, none⟩ = some (.string (S lab)) := by rw [hx2.cell]; rfl
          have x1 : w2.cell? ⟨w1.heap.size, 1, none⟩ = some (.pointer none) := by rw [hx2.cell]; rfl
          have x2 : w2.cell? ⟨w1.heap.size, 2, none⟩ = some (.pointer (some ⟨k, 0, none⟩)) := by rw [hx2.cell]; rfl
          have xl := hx2.lt
          have hBr2 : B ≤ w2.heap.size := by omega
          simp only [pv_some, pv_none, Tg.nodeP, Tg.leafP] at v4 v5
          clear hcm hs2 hb2 hx2 c1' c0' f0' f1' k0 k1' k2'
          by_cases hlt : cm < lab.length
          · have hd1 : decide (cm < lab.length) = true := decide_eq_true hlt
            have hrm' : (r.drop cm).length < r.length := by rw [List.length_drop]; omega
            have HRM := hide hrm'
            have HRL := hide (Nat.le_trans (Nat.le_of_lt hrm') hrl)
            have HLT := hide hlt
            clear hrm' hlt
            go_wp2
            go_region
            go_wp2
            have xl1 : w1.heap.size < w2.heap.size + 1 := by omega
            have xl2 : w1.heap.size < w2.heap.size + 1 + 1 := by omega
            have vn1 : n < w2.heap.size + 1 := by omega
            have vn2 : n < w2.heap.size + 1 + 1 := by omega
            have vg1 : g < w2.heap.size + 1 := by omega
            have vg2 : g < w2.heap.size + 1 + 1 := by omega
            have hng : ¬ n = g := fun e => by
              obtain ⟨cs, hcs⟩ := own_blk (g := g) (HS2.out.mem.row n d HS2.out.node) (by rw [HR.out]; rfl)
              rw [← e] at hcs
              exact hcs.ne_ (HS2.out.mem.node n d HS2.out.node) (by decide) rfl
            have hgn : ¬ g = n := fun e => hng e.symm
            go_region
            go_wp2
            go_roundw
            case measure => rw [strLen_S, strLen_S]; exact HRM.out
            case rel =>
              obtain ⟨sa', Ra', h9⟩ := HS2.out.cutW HE.out HR.out HCM.out hcm1 HLT.out hBr2
              exact ⟨w2.heap.size + 1 + 1, _, rfl, rfl, HRL.out, by simp; omega, h9.ex⟩
          · have heq : cm = lab.length := by omega
            have HEQ := hide heq
            have hd1 : decide (cm < lab.length) = false := decide_eq_false hlt
            have hrm' : (r.drop cm).length < r.length := by rw [List.length_drop]; omega
            have HRM := hide hrm'
            have HRL := hide (Nat.le_trans (Nat.le_of_lt hrm') hrl)
            clear heq hlt hrm'
            by_cases hkl : cm = r.length
            · have hd2 : ((cm : Int) == (r.length : Int)) = true := by rw [hkl]; simp
              have HKL := hide hkl
              clear hkl
              go_wp2
              go_ret
              exact HS2.out.endLeaf HE.out HCM.out HEQ.out HKL.out
            · have hd2 : ((cm : Int) == (r.length : Int)) = false := by simp; omega
              clear hkl
              go_wp2
              have hng : ¬ n = g := fun e => by
                obtain ⟨cs, hcs⟩ := own_blk (g := g) (HS2.out.mem.row n d HS2.out.node) (by rw [HR.out]; rfl)
                rw [← e] at hcs
                exact hcs.ne_ (HS2.out.mem.node n d HS2.out.node) (by decide) rfl
              have hgn : ¬ g = n := fun e => hng e.symm
              go_region
              go_wp2
              go_roundw
              case measure => rw [strLen_S, strLen_S]; exact HRM.out
              case rel =>
                have hst : ∃ sa' Ra', InsSt w ((((w2.setCell ⟨g, i * 3, none⟩ (.string (S lab))).setCell ⟨g, i * 3 + 1, none⟩ (.pointer (some ⟨w2.heap.size, 0, none⟩))).setCell ⟨g, i * 3 + 2, none⟩ (.pointer none)).alloc (.cells #[.slice none 0 0, .pointer (some ⟨k, 0, none⟩)] 44)).drew B root M s.V K w2.heap.size (r.drop cm) sa' Ra' ⟨d.path ++ lab.take cm, some k, []⟩ := by
                  have hrow := own_setEd (i := i) (e := ⟨lab.take cm, .node w2.heap.size⟩) (HR.out ▸ HS2.out.mem.row n d HS2.out.node) hil
                  rw [HEQ.out, List.take_length] at hrow
                  refine HS2.out.cut (vn := .slice none 0 0) HE.out HR.out HCM.out hcm1 rfl (Or.inr ⟨HEQ.out, k, rfl, rfl, rfl⟩) hBr2 (Nat.le_refl _) ?_ ?_ ?_ ?_ ?_
                  · exact ((((((Chg.refl (fun x => x = g) w2).setCell (p := ⟨g, i * 3, none⟩) (fun _ => rfl) _).setCell (p := ⟨g, i * 3 + 1, none⟩) (fun _ => rfl) _).setCell (p := ⟨g, i * 3 + 2, none⟩) (fun _ => rfl) _).alloc _)).drew
                  · rw [HR.out, HEQ.out, List.take_length]
                    exact hrow.alloc _
                  · exact Blk.new_ _ _ _ (by simp)
                  · exact World.ownsRow_nil _ _ _ _
                  · intro g' hg'; cases hg'
                obtain ⟨sa', Ra', h9⟩ := hst
                exact ⟨w2.heap.size, _, rfl, rfl, HRL.out, by simp; omega, h9.ex⟩
end Go.Proofs.YtjekaagjgamfkaaDoor
