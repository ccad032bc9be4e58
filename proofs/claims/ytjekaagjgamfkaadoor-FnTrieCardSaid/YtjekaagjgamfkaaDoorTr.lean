/- The trie as a graph with paths, plain: what holds of it, and what the steps of Insert keep. No condition. -/
namespace Go.Proofs.YtjekaagjgamfkaaDoor.T

abbrev Bs := List UInt8
/-- Where an edge leads. -/
inductive Tg where
  | node (b : Nat)
  | leaf (k : Nat)
structure Ed where
  lab : Bs
  tg : Tg
/-- A node: its path from the root, the block of its own value, its edges. -/
structure Nd where
  path : Bs
  child : Option Nat
  es : List Ed
structure St where
  D : Nat → Option Nd
  V : Nat → Option (Bs × Int)

def hd (l : Bs) : Nat := (l.headD 0).toNat

/-- A node or a value with its path. -/
def Item (s : St) : Tg → Bs → Prop
  | .node b, p => ∃ d, s.D b = some d ∧ d.path = p
  | .leaf k, p => ∃ n, s.V k = some (p, n)

def Cmp (s : St) (b : Nat) (d : Nd) : Prop :=
  ∀ x p, Item s x p → d.path <+: p → x = .node b ∨ (∃ k, x = .leaf k ∧ d.child = some k ∧ p = d.path) ∨ ∃ e ∈ d.es, d.path ++ e.lab <+: p ∧ ∀ k, e.tg = .leaf k → x = .leaf k

structure Inv (s : St) (root : Nat) : Prop where
  root : ∃ d, s.D root = some d ∧ d.path = []
  lab : ∀ b d e, s.D b = some d → e ∈ d.es → e.lab ≠ []
  sort : ∀ b d, s.D b = some d → d.es.Pairwise (fun e f => hd e.lab < hd f.lab)
  tgN : ∀ b d e b', s.D b = some d → e ∈ d.es → e.tg = .node b' → ∃ d', s.D b' = some d' ∧ d'.path = d.path ++ e.lab
  tgL : ∀ b d e k, s.D b = some d → e ∈ d.es → e.tg = .leaf k → ∃ n, s.V k = some (d.path ++ e.lab, n)
  chi : ∀ b d k, s.D b = some d → d.child = some k → ∃ n, s.V k = some (d.path, n)
  cmp : ∀ b d, s.D b = some d → Cmp s b d
  keyU : ∀ k k' p n n', s.V k = some (p, n) → s.V k' = some (p, n') → k = k'

/-! ### prefixes -/
theorem pre_hd {a b c : Bs} (ha : a ≠ []) (hb : b ≠ []) (h1 : a <+: c) (h2 : b <+: c) : hd a = hd b := by
  cases a with
  | nil => exact absurd rfl ha
  | cons x a =>
    cases b with
    | nil => exact absurd rfl hb
    | cons y b =>
      obtain ⟨t, rfl⟩ := h1
      obtain ⟨u, e⟩ := h2
      have : y = x := by simpa using congrArg List.head? e
      rw [this]; rfl
theorem pre_cmp {a b c : Bs} (h1 : a <+: c) (h2 : b <+: c) : a <+: b ∨ b <+: a := List.prefix_or_prefix_of_prefix h1 h2
theorem pre_cancel {p a b : Bs} (h : p ++ a <+: p ++ b) : a <+: b := (List.prefix_append_right_inj p).1 h
theorem pre_app {p a b : Bs} (h : a <+: b) : p ++ a <+: p ++ b := (List.prefix_append_right_inj p).2 h
theorem pre_self {p a : Bs} (h : p ++ a <+: p) : a = [] := by
  have := h.length_le
  rw [List.length_append] at this
  exact List.eq_nil_of_length_eq_zero (by omega)
theorem pre_left {p q : Bs} (a : Bs) (h : p <+: q) : p <+: q ++ a := h.trans (List.prefix_append q a)
theorem pre_drop {p q : Bs} (h : p <+: q) : ∃ r, q = p ++ r := ⟨h.choose, h.choose_spec.symm⟩

/-- Two edges of a node that begin alike are one. -/
theorem ed_one : ∀ {es : List Ed}, es.Pairwise (fun e f => hd e.lab < hd f.lab) → ∀ {i j : Nat} {e f : Ed}, es[i]? = some e → es[j]? = some f → hd e.lab = hd f.lab → i = j := by
  intro es hs i j e f hi hj h
  have hp := List.pairwise_iff_getElem.1 hs
  obtain ⟨li, rfl⟩ := List.getElem?_eq_some_iff.1 hi
  obtain ⟨lj, rfl⟩ := List.getElem?_eq_some_iff.1 hj
  rcases Nat.lt_trichotomy i j with h1 | h1 | h1
  · have := hp i j li lj h1; omega
  · exact h1
  · have := hp j i lj li h1; omega

theorem ed_mem {es : List Ed} (hs : es.Pairwise (fun e f => hd e.lab < hd f.lab)) {i : Nat} {e f : Ed} (hi : es[i]? = some e) (hf : f ∈ es) (h : hd e.lab = hd f.lab) : f = e := by
  obtain ⟨j, hj⟩ := List.mem_iff_getElem?.1 hf
  have := ed_one hs hi hj h
  subst this
  rw [hi] at hj
  exact (Option.some.inj hj).symm

def upd {α : Type} (f : Nat → Option α) (i : Nat) (a : α) : Nat → Option α := fun j => if j = i then some a else f j
theorem upd_same {α : Type} (f : Nat → Option α) (i : Nat) (a : α) : upd f i a i = some a := if_pos rfl
theorem upd_ne {α : Type} (f : Nat → Option α) {i j : Nat} (a : α) (h : j ≠ i) : upd f i a j = f j := if_neg h

/-- Nodes on the way to the node b's end: a node whose path is a start of b's is b, or has an edge on the way. -/
theorem Inv.way {s : St} {root b a : Nat} {d da : Nd} (h : Inv s root) (hb : s.D b = some d) (ha : s.D a = some da) (hp : da.path <+: d.path) : a = b ∨ ∃ e ∈ da.es, da.path ++ e.lab <+: d.path ∧ ∀ k, e.tg ≠ .leaf k := by
  rcases h.cmp a da ha (.node b) d.path ⟨d, hb, rfl⟩ hp with e | ⟨k, e, _⟩ | ⟨e, he, h1, h2⟩
  · exact Or.inl (by injection e with e; exact e.symm)
  · cases e
  · exact Or.inr ⟨e, he, h1, fun k hk => by cases h2 k hk⟩

theorem upd_some {α : Type} {f : Nat → Option α} {i j : Nat} {a x : α} (h : upd f i a j = some x) : (j = i ∧ x = a) ∨ (j ≠ i ∧ f j = some x) := by
  by_cases e : j = i
  · subst e
    rw [upd_same] at h
    exact Or.inl ⟨rfl, (Option.some.inj h).symm⟩
  · rw [upd_ne _ _ e] at h
    exact Or.inr ⟨e, h⟩
theorem upd_old {α : Type} {f : Nat → Option α} {i j : Nat} {a x : α} (h : f j = some x) (hi : f i = none) : upd f i a j = some x := by
  rw [upd_ne _ _ (fun e => by rw [e, hi] at h; cases h)]
  exact h

/-- A new key at the node b. -/
theorem Inv.newKey {s : St} {root b k : Nat} {d d' : Nd} {K : Bs} (h : Inv s root) (hb : s.D b = some d) (hk : s.V k = none) (hno : ∀ k' n, s.V k' ≠ some (K, n)) (hp : d'.path = d.path)
    (hes : ∀ e ∈ d'.es, e ∈ d.es ∨ (e.tg = .leaf k ∧ d.path ++ e.lab = K ∧ e.lab ≠ [])) (hes2 : ∀ e ∈ d.es, e ∈ d'.es) (hsort : d'.es.Pairwise (fun e f => hd e.lab < hd f.lab))
    (hch : d'.child = d.child ∨ (d.child = none ∧ d'.child = some k ∧ K = d.path)) (hnew : (d'.child = some k ∧ K = d.path) ∨ ∃ e ∈ d'.es, e.tg = .leaf k ∧ d.path ++ e.lab = K)
    (hway : ∀ a da, s.D a = some da → da.path <+: K → da.path <+: d.path) (hdK : d.path <+: K) : Inv ⟨upd s.D b d', upd s.V k (K, 0)⟩ root := by
  have hD : ∀ a da, upd s.D b d' a = some da → ∃ d0, s.D a = some d0 ∧ da.path = d0.path ∧ ((a = b ∧ da = d' ∧ d0 = d) ∨ (a ≠ b ∧ da = d0)) := by
    intro a da ha
    rcases upd_some ha with ⟨rfl, rfl⟩ | ⟨h1, h2⟩
    · exact ⟨d, hb, hp, Or.inl ⟨rfl, rfl, rfl⟩⟩
    · exact ⟨da, h2, rfl, Or.inr ⟨h1, rfl⟩⟩
  have hN : ∀ a d0, s.D a = some d0 → ∃ da, upd s.D b d' a = some da ∧ da.path = d0.path := by
    intro a d0 ha
    by_cases hab : a = b
    · subst hab
      rw [hb] at ha; cases ha
      exact ⟨_, upd_same _ _ _, hp⟩
    · exact ⟨d0, by rw [upd_ne _ _ hab]; exact ha, rfl⟩
  have hV : ∀ k' x, s.V k' = some x → upd s.V k (K, 0) k' = some x := fun k' x hv => upd_old hv hk
  refine ⟨?_, ?_, ?_, ?_, ?_, ?_, ?_, ?_⟩
  · obtain ⟨d0, h0, hp0⟩ := h.root
    obtain ⟨da, h1, h2⟩ := hN _ _ h0
    exact ⟨da, h1, h2.trans hp0⟩
  · intro a da e ha he
    obtain ⟨d0, h0, _, ⟨rfl, rfl, rfl⟩ | ⟨_, rfl⟩⟩ := hD a da ha
    · rcases hes e he with h1 | ⟨_, _, h1⟩
      · exact h.lab a d0 e h0 h1
      · exact h1
    · exact h.lab a da e h0 he
  · intro a da ha
    obtain ⟨d0, h0, _, ⟨rfl, rfl, rfl⟩ | ⟨_, rfl⟩⟩ := hD a da ha
    · exact hsort
    · exact h.sort a da h0
  · intro a da e b' ha he ht
    obtain ⟨d0, h0, h1, h2⟩ := hD a da ha
    have he0 : e ∈ d0.es := by
      rcases h2 with ⟨rfl, rfl, rfl⟩ | ⟨_, rfl⟩
      · rcases hes e he with h3 | ⟨h3, _⟩
        · exact h3
        · rw [h3] at ht; cases ht
      · exact he
    obtain ⟨d2, h3, h4⟩ := h.tgN a d0 e b' h0 he0 ht
    obtain ⟨d3, h5, h6⟩ := hN b' d2 h3
    exact ⟨d3, h5, by rw [h6, h4, h1]⟩
  · intro a da e k' ha he ht
    obtain ⟨d0, h0, h1, h2⟩ := hD a da ha
    rw [h1]
    rcases h2 with ⟨rfl, rfl, rfl⟩ | ⟨_, rfl⟩
    · rcases hes e he with h3 | ⟨h3, h4, _⟩
      · obtain ⟨n, h5⟩ := h.tgL a d0 e k' h0 h3 ht
        exact ⟨n, hV _ _ h5⟩
      · rw [h3] at ht; cases ht
        rw [h4]
        exact ⟨0, upd_same _ _ _⟩
    · obtain ⟨n, h5⟩ := h.tgL a da e k' h0 he ht
      exact ⟨n, hV _ _ h5⟩
  · intro a da k' ha hk'
    obtain ⟨d0, h0, h1, h2⟩ := hD a da ha
    rw [h1]
    rcases h2 with ⟨rfl, rfl, rfl⟩ | ⟨_, rfl⟩
    · rcases hch with h3 | ⟨_, h3, h4⟩
      · obtain ⟨n, h5⟩ := h.chi a d0 k' h0 (h3 ▸ hk')
        exact ⟨n, hV _ _ h5⟩
      · rw [h3] at hk'; cases hk'
        rw [← h4]
        exact ⟨0, upd_same _ _ _⟩
    · obtain ⟨n, h5⟩ := h.chi a da k' h0 hk'
      exact ⟨n, hV _ _ h5⟩
  · intro a da ha x p hx hpp
    obtain ⟨d0, h0, h1, h2⟩ := hD a da ha
    rw [h1] at hpp ⊢
    have hold : Item s x p ∨ (x = .leaf k ∧ p = K) := by
      cases x with
      | node b' =>
        obtain ⟨d2, h4, h5⟩ := hx
        obtain ⟨d3, h6, h7, _⟩ := hD b' d2 h4
        exact Or.inl ⟨d3, h6, h7.symm.trans h5⟩
      | leaf k' =>
        obtain ⟨n, h4⟩ := hx
        rcases upd_some h4 with ⟨rfl, h5⟩ | ⟨_, h5⟩
        · cases h5; exact Or.inr ⟨rfl, rfl⟩
        · exact Or.inl ⟨n, h5⟩
    rcases hold with hold | ⟨rfl, rfl⟩
    · rcases h.cmp a d0 h0 x p hold hpp with e | ⟨k2, e1, e2, e3⟩ | ⟨e, he, e1⟩
      · exact Or.inl e
      · refine Or.inr (Or.inl ⟨k2, e1, ?_, e3⟩)
        rcases h2 with ⟨rfl, rfl, rfl⟩ | ⟨_, rfl⟩
        · rcases hch with h3 | ⟨h3, _⟩
          · rw [h3]; exact e2
          · rw [h3] at e2; cases e2
        · exact e2
      · refine Or.inr (Or.inr ⟨e, ?_, e1⟩)
        rcases h2 with ⟨rfl, rfl, rfl⟩ | ⟨_, rfl⟩
        · exact hes2 e he
        · exact he
    · rcases h.way hb h0 (hway a d0 h0 hpp) with rfl | ⟨e, he, h4, h5⟩
      · rcases h2 with ⟨_, rfl, rfl⟩ | ⟨h2, _⟩
        · rcases hnew with ⟨h6, h7⟩ | ⟨e, he, h6, h7⟩
          · exact Or.inr (Or.inl ⟨k, rfl, h6, h7⟩)
          · refine Or.inr (Or.inr ⟨e, he, by rw [h7]; exact List.prefix_refl _, fun k' hk' => ?_⟩)
            rw [h6] at hk'; exact hk'
        · exact absurd rfl h2
      · refine Or.inr (Or.inr ⟨e, ?_, h4.trans hdK, fun k' hk' => absurd hk' (h5 k')⟩)
        rcases h2 with ⟨rfl, rfl, rfl⟩ | ⟨_, rfl⟩
        · exact hes2 e he
        · exact he
  · intro k1 k2 p n1 n2 h1 h2
    rcases upd_some h1 with ⟨e1, h3⟩ | ⟨e1, h3⟩ <;> rcases upd_some h2 with ⟨e2, h4⟩ | ⟨e2, h4⟩
    · rw [e1, e2]
    · cases h3; exact absurd h4 (hno _ _)
    · cases h4; exact absurd h3 (hno _ _)
    · exact h.keyU k1 k2 p n1 n2 h3 h4

/-- No value at a node that has none of its own. -/
theorem Inv.noChild {s : St} {root b : Nat} {d : Nd} (h : Inv s root) (hb : s.D b = some d) (hc : d.child = none) : ∀ k' n, s.V k' ≠ some (d.path, n) := by
  intro k' n hv
  rcases h.cmp b d hb (.leaf k') d.path ⟨n, hv⟩ (List.prefix_refl _) with e | ⟨k2, _, e, _⟩ | ⟨e, he, h1, _⟩
  · cases e
  · rw [hc] at e; cases e
  · exact h.lab b d e hb he (pre_self h1)

/-- Case 1: the node's own value is new. -/
theorem Inv.newChild {s : St} {root b k : Nat} {d : Nd} (h : Inv s root) (hb : s.D b = some d) (hc : d.child = none) (hk : s.V k = none) :
    Inv ⟨upd s.D b { d with child := some k }, upd s.V k (d.path, 0)⟩ root :=
  h.newKey hb hk (h.noChild hb hc) rfl (fun _ he => Or.inl he) (fun _ he => he) (h.sort b d hb) (Or.inr ⟨hc, rfl, rfl⟩) (Or.inl ⟨rfl, rfl⟩) (fun _ _ _ hp => hp) (List.prefix_refl _)

/-- Nothing below a node goes on as r does, where no edge begins as r. -/
theorem Inv.noEdge {s : St} {root b : Nat} {d : Nd} {r : Bs} (h : Inv s root) (hb : s.D b = some d) (hr : r ≠ []) (hne : ∀ e ∈ d.es, hd e.lab ≠ hd r) {x : Tg} {p q : Bs} (hx : Item s x p) (h1 : d.path <+: p) (h2 : p <+: d.path ++ r ++ q) : x = .node b ∨ ∃ k, x = .leaf k ∧ d.child = some k ∧ p = d.path := by
  rcases h.cmp b d hb x p hx h1 with e | e | ⟨e, he, h3, _⟩
  · exact Or.inl e
  · exact Or.inr e
  · exfalso
    have h4 := h3.trans h2
    rw [List.append_assoc] at h4
    have h5 : e.lab <+: r ++ q := pre_cancel h4
    exact hne e he (pre_hd (h.lab b d e hb he) hr h5 (List.prefix_append r q))

/-- Case 2: a new edge. -/
theorem Inv.newEdge {s : St} {root b k pos : Nat} {d : Nd} {r : Bs} (h : Inv s root) (hb : s.D b = some d) (hr : r ≠ []) (hk : s.V k = none)
    (hlo : ∀ e ∈ d.es.take pos, hd e.lab < hd r) (hhi : ∀ e ∈ d.es.drop pos, hd r < hd e.lab) :
    Inv ⟨upd s.D b { d with es := d.es.take pos ++ ⟨r, .leaf k⟩ :: d.es.drop pos }, upd s.V k (d.path ++ r, 0)⟩ root ∧ ∀ k' n, s.V k' ≠ some (d.path ++ r, n) := by
  have hne : ∀ e ∈ d.es, hd e.lab ≠ hd r := by
    intro e he
    rw [← List.take_append_drop pos d.es] at he
    rcases List.mem_append.1 he with he | he
    · have := hlo e he; omega
    · have := hhi e he; omega
  have hno : ∀ k' n, s.V k' ≠ some (d.path ++ r, n) := by
    intro k' n hv
    rcases h.noEdge (x := .leaf k') (q := []) hb hr hne ⟨n, hv⟩ (List.prefix_append _ _) (by rw [List.append_nil]; exact List.prefix_refl _) with e | ⟨k2, _, _, e⟩
    · cases e
    · have := congrArg List.length e
      rw [List.length_append] at this
      exact hr (List.eq_nil_of_length_eq_zero (by omega))
  refine ⟨h.newKey hb hk hno rfl (fun e he => ?_) (fun e he => ?_) ?_ (Or.inl rfl) (Or.inr ⟨⟨r, .leaf k⟩, by simp, rfl, rfl⟩) ?_ (List.prefix_append _ _), hno⟩
  · rcases List.mem_append.1 he with he | he
    · exact Or.inl (List.mem_of_mem_take he)
    · rcases List.mem_cons.1 he with rfl | he
      · exact Or.inr ⟨rfl, rfl, hr⟩
      · exact Or.inl (List.mem_of_mem_drop he)
  · rw [← List.take_append_drop pos d.es] at he
    rcases List.mem_append.1 he with he | he
    · exact List.mem_append_left _ he
    · exact List.mem_append_right _ (List.mem_cons_of_mem _ he)
  · have hs := h.sort b d hb
    rw [← List.take_append_drop pos d.es] at hs
    obtain ⟨p1, p2, p3⟩ := List.pairwise_append.1 hs
    refine List.pairwise_append.2 ⟨p1, List.pairwise_cons.2 ⟨fun f hf => hhi f hf, p2⟩, fun e he f hf => ?_⟩
    rcases List.mem_cons.1 hf with rfl | hf
    · exact hlo e he
    · exact p3 e he f hf
  · intro a da ha hpa
    rcases pre_cmp hpa (List.prefix_append d.path r) with h1 | h1
    · exact h1
    · rcases h.noEdge (x := .node a) (q := []) hb hr hne ⟨da, ha, rfl⟩ h1 (by rw [List.append_nil]; exact hpa) with e | ⟨k2, e, _⟩
      · injection e with e
        subst e
        rw [hb] at ha; cases ha
        exact List.prefix_refl _
      · cases e

/-- Cases 3: the edge at pos is cut behind c letters; a new node lies there. -/
theorem Inv.newNode {s : St} {root b nb pos c : Nat} {d dn : Nd} {e : Ed} (h : Inv s root) (hb : s.D b = some d) (hn : s.D nb = none) (he : d.es[pos]? = some e) (hc1 : 1 ≤ c) (hc2 : c ≤ e.lab.length) (hdp : dn.path = d.path ++ e.lab.take c)
    (hdn : (c < e.lab.length ∧ dn.child = none ∧ dn.es = [⟨e.lab.drop c, e.tg⟩]) ∨ (c = e.lab.length ∧ ∃ k, e.tg = .leaf k ∧ dn.child = some k ∧ dn.es = [])) :
    Inv ⟨upd (upd s.D nb dn) b { d with es := d.es.set pos ⟨e.lab.take c, .node nb⟩ }, s.V⟩ root := by
  obtain ⟨e', he'⟩ : ∃ e' : Ed, e' = ⟨e.lab.take c, .node nb⟩ := ⟨_, rfl⟩
  rw [← he']
  have hel : e.lab ≠ [] := h.lab b d e hb (List.mem_of_getElem? he)
  have hpl := (List.getElem?_eq_some_iff.1 he).1
  have htl : e.lab.take c ≠ [] := fun e0 => by
    have h8 := congrArg List.length e0
    have h9 : 0 < e.lab.length := List.length_pos_iff.2 hel
    rw [List.length_take] at h8
    have h10 : min c e.lab.length = 0 := h8
    omega
  have hth : hd (e.lab.take c) = hd e.lab := pre_hd htl hel (List.take_prefix _ _) (List.prefix_refl _)
  have htd : e.lab.take c ++ e.lab.drop c = e.lab := List.take_append_drop _ _
  have hbn : b ≠ nb := fun e0 => by rw [e0, hn] at hb; cases hb
  have hsub : d.path ++ e.lab.take c <+: d.path ++ e.lab := pre_app (List.take_prefix _ _)
  have hmem : ∀ f ∈ d.es.set pos e', f = e' ∨ (f ∈ d.es ∧ hd f.lab ≠ hd e.lab) := by
    intro f hf
    obtain ⟨j, hj⟩ := List.mem_iff_getElem?.1 hf
    rw [List.getElem?_set] at hj
    by_cases hjp : pos = j
    · rw [if_pos hjp, if_pos (by omega)] at hj
      exact Or.inl (Option.some.inj hj).symm
    · rw [if_neg hjp] at hj
      exact Or.inr ⟨List.mem_of_getElem? hj, fun e0 => hjp (ed_one (h.sort b d hb) he hj e0.symm)⟩
  have hmem2 : ∀ f ∈ d.es, f = e ∨ f ∈ d.es.set pos e' := by
    intro f hf
    obtain ⟨j, hj⟩ := List.mem_iff_getElem?.1 hf
    by_cases hjp : pos = j
    · subst hjp
      rw [he] at hj
      exact Or.inl (Option.some.inj hj).symm
    · refine Or.inr (List.mem_iff_getElem?.2 ⟨j, ?_⟩)
      rw [List.getElem?_set, if_neg hjp]; exact hj
  have hmem3 : e' ∈ d.es.set pos e' := List.mem_iff_getElem?.2 ⟨pos, by rw [List.getElem?_set, if_pos rfl, if_pos hpl]⟩
  have hD : ∀ a da, upd (upd s.D nb dn) b { d with es := d.es.set pos e' } a = some da → (a = b ∧ da = { d with es := d.es.set pos e' }) ∨ (a = nb ∧ da = dn) ∨ (a ≠ b ∧ a ≠ nb ∧ s.D a = some da) := by
    intro a da ha
    rcases upd_some ha with ⟨rfl, rfl⟩ | ⟨h1, h2⟩
    · exact Or.inl ⟨rfl, rfl⟩
    · rcases upd_some h2 with ⟨rfl, rfl⟩ | ⟨h3, h4⟩
      · exact Or.inr (Or.inl ⟨rfl, rfl⟩)
      · exact Or.inr (Or.inr ⟨h1, h3, h4⟩)
  have hN : ∀ a d0, s.D a = some d0 → ∃ da, upd (upd s.D nb dn) b { d with es := d.es.set pos e' } a = some da ∧ da.path = d0.path := by
    intro a d0 ha
    by_cases hab : a = b
    · subst hab
      rw [hb] at ha; cases ha
      exact ⟨_, upd_same _ _ _, rfl⟩
    · exact ⟨d0, by rw [upd_ne _ _ hab]; exact upd_old ha hn, rfl⟩
  have hnbD : upd (upd s.D nb dn) b { d with es := d.es.set pos e' } nb = some dn := by rw [upd_ne _ _ hbn.symm]; exact upd_same _ _ _
  -- an item that was there
  have hI : ∀ x p, Item ⟨upd (upd s.D nb dn) b { d with es := d.es.set pos e' }, s.V⟩ x p → (x = .node nb ∧ p = dn.path) ∨ Item s x p := by
    intro x p hx
    cases x with
    | node b' =>
      obtain ⟨d2, h4, h5⟩ := hx
      rcases hD b' d2 h4 with ⟨rfl, rfl⟩ | ⟨rfl, rfl⟩ | ⟨_, _, h6⟩
      · exact Or.inr ⟨d, hb, h5⟩
      · exact Or.inl ⟨rfl, h5.symm⟩
      · exact Or.inr ⟨d2, h6, h5⟩
    | leaf k' => exact Or.inr hx
  -- an old item below the cut goes through the edge
  have hcut : ∀ x p, Item s x p → d.path ++ e.lab.take c <+: p → d.path ++ e.lab <+: p ∧ ∀ k, e.tg = .leaf k → x = .leaf k := by
    intro x p hx hp
    rcases h.cmp b d hb x p hx ((List.prefix_append _ _).trans hp) with e0 | ⟨_, _, _, e0⟩ | ⟨f, hf, h1, h2⟩
    · subst e0
      obtain ⟨d2, h3, rfl⟩ := hx
      rw [hb] at h3; cases h3
      exact absurd (pre_self hp) htl
    · subst e0
      exact absurd (pre_self hp) htl
    · have hfe : f = e := by
        obtain ⟨t, ht⟩ := (List.prefix_append d.path (e.lab.take c)).trans hp
        subst ht
        exact ed_mem (h.sort b d hb) he hf (hth ▸ pre_hd htl (h.lab b d f hb hf) (pre_cancel hp) (pre_cancel h1))
      subst hfe
      exact ⟨h1, h2⟩
  -- the new node on the way of old ones
  have hway : ∀ a da, s.D a = some da → a ≠ b → da.path <+: d.path ++ e.lab.take c → ∃ f ∈ da.es, da.path ++ f.lab <+: d.path ∧ ∀ k, f.tg ≠ .leaf k := by
    intro a da ha hab hp
    rcases pre_cmp hp (List.prefix_append d.path (e.lab.take c)) with h1 | h1
    · rcases h.way hb ha h1 with rfl | h2
      · exact absurd rfl hab
      · exact h2
    · rcases h.cmp b d hb (.node a) da.path ⟨da, ha, rfl⟩ h1 with e0 | ⟨_, e0, _⟩ | ⟨f, hf, h2, _⟩
      · injection e0 with e0; exact absurd e0 hab
      · cases e0
      · exfalso
        have h3 := pre_cancel (h2.trans hp)
        have hfe : f = e := ed_mem (h.sort b d hb) he hf (hth ▸ pre_hd htl (h.lab b d f hb hf) (List.prefix_refl _) h3)
        subst hfe
        have h4 := h3.length_le
        rw [List.length_take] at h4
        -- then a's path is the whole cut, and the edge leads there
        rcases hdn with ⟨h5, _⟩ | ⟨h5, k, h6, _⟩
        · omega
        · rcases h.cmp b d hb (.node a) da.path ⟨da, ha, rfl⟩ h1 with e0 | ⟨_, e0, _⟩ | ⟨f2, hf2, h7, h8⟩
          · injection e0 with e0; exact absurd e0 hab
          · cases e0
          · have h9 := pre_cancel (h7.trans hp)
            have hf3 : f2 = f := ed_mem (h.sort b d hb) he hf2 (hth ▸ pre_hd htl (h.lab b d f2 hb hf2) (List.prefix_refl _) h9)
            subst hf3
            cases h8 k h6
  refine ⟨?_, ?_, ?_, ?_, ?_, ?_, ?_, ?_⟩
  · obtain ⟨d0, h0, hp0⟩ := h.root
    obtain ⟨da, h1, h2⟩ := hN _ _ h0
    exact ⟨da, h1, h2.trans hp0⟩
  · intro a da f ha hf
    rcases hD a da ha with ⟨rfl, rfl⟩ | ⟨rfl, rfl⟩ | ⟨_, _, h0⟩
    · rcases hmem f hf with rfl | ⟨hf, _⟩
      · rw [he']; exact htl
      · exact h.lab a d f hb hf
    · rcases hdn with ⟨h1, _, h2⟩ | ⟨_, _, _, _, h2⟩
      · rw [h2, List.mem_singleton] at hf
        subst hf
        intro e0
        have := congrArg List.length e0
        rw [List.length_drop] at this
        simp at this
        omega
      · rw [h2] at hf; cases hf
    · exact h.lab a da f h0 hf
  · intro a da ha
    rcases hD a da ha with ⟨rfl, rfl⟩ | ⟨rfl, rfl⟩ | ⟨_, _, h0⟩
    · have hs := List.pairwise_iff_getElem.1 (h.sort a d hb)
      refine List.pairwise_iff_getElem.2 fun i j hi hj hij => ?_
      show hd ((d.es.set pos e')[i]'hi).lab < hd ((d.es.set pos e')[j]'hj).lab
      have hi' : i < d.es.length := by have := hi; simp at this; exact this
      have hj' : j < d.es.length := by have := hj; simp at this; exact this
      have hlab : ∀ i (hi : i < (d.es.set pos e').length) (hi' : i < d.es.length), hd ((d.es.set pos e')[i]'hi).lab = hd (d.es[i]'hi').lab := by
        intro i hi hi'
        rw [List.getElem_set]
        split
        · rename_i hpi
          subst hpi
          rw [he', hth]
          have := (List.getElem?_eq_some_iff.1 he).2
          rw [this]
        · rfl
      rw [hlab i hi hi', hlab j hj hj']
      exact hs i j hi' hj' hij
    · rcases hdn with ⟨_, _, h2⟩ | ⟨_, _, _, _, h2⟩
      · show da.es.Pairwise _
        rw [h2]; exact List.pairwise_singleton _ _
      · show da.es.Pairwise _
        rw [h2]; exact List.Pairwise.nil
    · exact h.sort a da h0
  · intro a da f b' ha hf ht
    rcases hD a da ha with ⟨rfl, rfl⟩ | ⟨rfl, rfl⟩ | ⟨_, _, h0⟩
    · rcases hmem f hf with rfl | ⟨hf, _⟩
      · rw [he'] at ht
        injection ht with ht
        subst ht
        exact ⟨dn, hnbD, by rw [hdp, he']⟩
      · obtain ⟨d2, h1, h2⟩ := h.tgN a d f b' hb hf ht
        obtain ⟨d3, h3, h4⟩ := hN b' d2 h1
        exact ⟨d3, h3, h4.trans h2⟩
    · rcases hdn with ⟨_, _, h2⟩ | ⟨_, _, _, _, h2⟩
      · rw [h2, List.mem_singleton] at hf
        subst hf
        obtain ⟨d2, h3, h4⟩ := h.tgN b d e b' hb (List.mem_of_getElem? he) ht
        obtain ⟨d3, h5, h6⟩ := hN b' d2 h3
        refine ⟨d3, h5, ?_⟩
        rw [h6, h4, hdp, List.append_assoc, htd]
      · rw [h2] at hf; cases hf
    · obtain ⟨d2, h1, h2⟩ := h.tgN a da f b' h0 hf ht
      obtain ⟨d3, h3, h4⟩ := hN b' d2 h1
      exact ⟨d3, h3, h4.trans h2⟩
  · intro a da f k' ha hf ht
    rcases hD a da ha with ⟨rfl, rfl⟩ | ⟨rfl, rfl⟩ | ⟨_, _, h0⟩
    · rcases hmem f hf with rfl | ⟨hf, _⟩
      · rw [he'] at ht; cases ht
      · exact h.tgL a d f k' hb hf ht
    · rcases hdn with ⟨_, _, h2⟩ | ⟨_, _, _, _, h2⟩
      · rw [h2, List.mem_singleton] at hf
        subst hf
        obtain ⟨n, h3⟩ := h.tgL b d e k' hb (List.mem_of_getElem? he) ht
        refine ⟨n, ?_⟩
        show s.V k' = _
        rw [h3, hdp, List.append_assoc, htd]
      · rw [h2] at hf; cases hf
    · exact h.tgL a da f k' h0 hf ht
  · intro a da k' ha hk'
    rcases hD a da ha with ⟨rfl, rfl⟩ | ⟨rfl, rfl⟩ | ⟨_, _, h0⟩
    · exact h.chi a d k' hb hk'
    · rcases hdn with ⟨_, h1, _⟩ | ⟨h1, k, h2, h3, _⟩
      · rw [h1] at hk'; cases hk'
      · rw [h3] at hk'; cases hk'
        obtain ⟨n, h4⟩ := h.tgL b d e k' hb (List.mem_of_getElem? he) h2
        refine ⟨n, ?_⟩
        show s.V k' = _
        rw [h4, hdp, h1, List.take_length]
    · exact h.chi a da k' h0 hk'
  · intro a da ha x p hx hp
    rcases hD a da ha with ⟨rfl, rfl⟩ | ⟨rfl, rfl⟩ | ⟨hab, hanb, h0⟩
    · rcases hI x p hx with ⟨rfl, rfl⟩ | hx
      · refine Or.inr (Or.inr ⟨e', hmem3, ?_, fun k hk => ?_⟩)
        · rw [he', hdp]; exact List.prefix_refl _
        · rw [he'] at hk; cases hk
      · rcases h.cmp a d hb x p hx hp with e0 | e0 | ⟨f, hf, h1, h2⟩
        · exact Or.inl e0
        · exact Or.inr (Or.inl e0)
        · rcases hmem2 f hf with rfl | hf2
          · refine Or.inr (Or.inr ⟨e', hmem3, ?_, fun k hk => ?_⟩)
            · rw [he']; exact hsub.trans h1
            · rw [he'] at hk; cases hk
          · exact Or.inr (Or.inr ⟨f, hf2, h1, h2⟩)
    · rcases hI x p hx with ⟨rfl, rfl⟩ | hx
      · exact Or.inl rfl
      · rw [hdp] at hp
        obtain ⟨h1, h2⟩ := hcut x p hx hp
        rcases hdn with ⟨_, _, h3⟩ | ⟨h3, k, h4, h5, _⟩
        · refine Or.inr (Or.inr ⟨⟨e.lab.drop c, e.tg⟩, by rw [h3]; exact List.mem_singleton.2 rfl, ?_, h2⟩)
          rw [hdp, List.append_assoc, htd]; exact h1
        · refine Or.inr (Or.inl ⟨k, h2 k h4, h5, ?_⟩)
          have hxk := h2 k h4
          subst hxk
          obtain ⟨n, h6⟩ := hx
          obtain ⟨n', h7⟩ := h.tgL b d e k hb (List.mem_of_getElem? he) h4
          rw [h6] at h7
          cases h7
          rw [hdp, h3, List.take_length]
    · rcases hI x p hx with ⟨rfl, rfl⟩ | hx
      · rw [hdp] at hp ⊢
        obtain ⟨f, hf, h1, h2⟩ := hway a da h0 hab hp
        exact Or.inr (Or.inr ⟨f, hf, h1.trans (List.prefix_append _ _), fun k hk => absurd hk (h2 k)⟩)
      · exact h.cmp a da h0 x p hx hp
  · intro k1 k2 p n1 n2 h1 h2
    exact h.keyU k1 k2 p n1 n2 h1 h2
end Go.Proofs.YtjekaagjgamfkaaDoor.T
