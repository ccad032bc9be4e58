/- What walks down the trie come to, plain: the laws. No condition. -/
import Derived.Test.YtjekaagjgamfkaaDoorPf
import Derived.Test.YtjekaagjgamfkaaDoorTm
namespace Go.Proofs.YtjekaagjgamfkaaDoor.T
open Go.Op (bytesLess)

theorem pre_hd1 {a b : Bs} (ha : a ≠ []) (h : a <+: b) : hd a = hd b := by
  cases a with
  | nil => exact absurd rfl ha
  | cons x a =>
    obtain ⟨t, rfl⟩ := h
    rfl
theorem pre_not_nil {a b : Bs} (ha : a ≠ []) (h : a <+: b) : b ≠ [] := by
  rintro rfl
  exact ha (List.prefix_nil.1 h)

/-- What lies below a node: its own value, or a value below one of its edges. -/
theorem Inv.below {s : St} {root b : Nat} {d : Nd} (h : Inv s root) (hb : s.D b = some d) {k : Nat} {q : Bs} {m : Int} (hk : s.V k = some (d.path ++ q, m)) :
    (q = [] ∧ d.child = some k) ∨ ∃ e ∈ d.es, e.lab <+: q ∧ ∀ k', e.tg = .leaf k' → k' = k := by
  rcases h.cmp b d hb (.leaf k) (d.path ++ q) ⟨m, hk⟩ (List.prefix_append _ _) with e | ⟨k', e1, e2, e3⟩ | ⟨e, he, h1, h2⟩
  · cases e
  · have hq : q = [] := by
      have := congrArg List.length e3
      rw [List.length_append] at this
      exact List.eq_nil_of_length_eq_zero (by omega)
    injection e1 with e1
    subst e1
    exact Or.inl ⟨hq, e2⟩
  · exact Or.inr ⟨e, he, pre_cancel h1, fun k' hk' => by
      have := h2 k' hk'
      injection this with this
      exact this.symm⟩

/-- The keys that begin a text are found. -/
theorem pfx_mem {s : St} {root : Nat} (h : Inv s root) : ∀ (f b : Nat) (d : Nd) (r : Bs) (k : Nat), s.D b = some d → r.length < f → (k ∈ pfx s f b r ↔ ∃ q m, s.V k = some (d.path ++ q, m) ∧ q <+: r)
  | 0, _, _, _, _, _, hf => absurd hf (Nat.not_lt_zero _)
  | f + 1, b, d, r, k, hb, hf => by
    rw [pfx_rst hb, List.mem_append]
    constructor
    · rintro (hc | hc)
      · rw [Option.mem_toList] at hc
        obtain ⟨m, hm⟩ := h.chi b d k hb hc
        exact ⟨[], m, by rw [List.append_nil]; exact hm, List.nil_prefix⟩
      · unfold rst at hc
        split at hc
        · cases hc
        · split at hc
          · cases hc
          · rename_i e he
            obtain ⟨hem, _⟩ := fnd_some he
            split at hc
            · rename_i hp
              have hp' := List.isPrefixOf_iff_prefix.1 hp
              obtain ⟨lab, tg⟩ := e
              cases tg with
              | leaf k2 =>
                have : k = k2 := by simpa using hc
                subst this
                obtain ⟨m, hm⟩ := h.tgL b d _ k hb hem rfl
                exact ⟨lab, m, hm, hp'⟩
              | node b2 =>
                obtain ⟨d2, h1, h2⟩ := h.tgN b d _ b2 hb hem rfl
                have hl : 0 < lab.length := List.length_pos_iff.2 (h.lab b d _ hb hem)
                have hle := hp'.length_le
                have hlt : (r.drop lab.length).length < f := by
                  rw [List.length_drop]
                  have : lab.length ≤ r.length := hle
                  omega
                obtain ⟨q, m, h3, h4⟩ := (pfx_mem h f b2 d2 (r.drop lab.length) k h1 hlt).1 hc
                refine ⟨lab ++ q, m, ?_, ?_⟩
                · rw [h3, h2, List.append_assoc]
                · obtain ⟨t, ht⟩ := hp'
                  have ht' : lab ++ t = r := ht
                  subst ht'
                  rw [List.drop_left] at h4
                  exact pre_app h4
            · cases hc
    · rintro ⟨q, m, hk, hq⟩
      rcases h.below hb hk with ⟨_, hc⟩ | ⟨e, he, h1, h2⟩
      · exact Or.inl (by rw [Option.mem_toList]; exact hc)
      · refine Or.inr ?_
        have hel := h.lab b d e hb he
        have hpr := h1.trans hq
        have hrn : r.isEmpty = false := by
          have := pre_not_nil hel hpr
          simpa using this
        obtain ⟨i, hi⟩ := List.mem_iff_getElem?.1 he
        have hf2 : fnd d.es (hd r) = some e := fnd_at (h.sort b d hb) hi (pre_hd1 hel hpr)
        obtain ⟨lab, tg⟩ := e
        have hpb : lab.isPrefixOf r = true := List.isPrefixOf_iff_prefix.2 hpr
        cases tg with
        | leaf k2 =>
          rw [rst_leaf hrn hf2 hpb, h2 k2 rfl]
          exact List.mem_singleton.2 rfl
        | node b2 =>
          rw [rst_node hrn hf2 hpb]
          obtain ⟨d2, h3, h4⟩ := h.tgN b d _ b2 hb he rfl
          have hl : 0 < lab.length := List.length_pos_iff.2 hel
          have hle : lab.length ≤ r.length := hpr.length_le
          have hlt : (r.drop lab.length).length < f := by
            rw [List.length_drop]
            omega
          obtain ⟨q', hq'⟩ := h1
          have hq2 : lab ++ q' = q := hq'
          subst hq2
          refine (pfx_mem h f b2 d2 (r.drop lab.length) k h3 hlt).2 ⟨q', m, ?_, ?_⟩
          · rw [hk, h4, List.append_assoc]
          · obtain ⟨t, ht⟩ := hq
            subst ht
            rw [List.append_assoc]
            show q' <+: (lab ++ (q' ++ t)).drop lab.length
            rw [List.drop_left]
            exact List.prefix_append _ _

/-- .. the shortest one first. -/
theorem pfx_sorted {s : St} {root : Nat} (h : Inv s root) : ∀ (f b : Nat) (d : Nd) (r : Bs), s.D b = some d → r.length < f → (pfx s f b r).Pairwise (fun x y => (key s x).length < (key s y).length)
  | 0, _, _, _, _, hf => absurd hf (Nat.not_lt_zero _)
  | f + 1, b, d, r, hb, hf => by
    rw [pfx_rst hb]
    unfold rst
    have hone : ∀ o : Option Nat, o.toList.Pairwise (fun x y => (key s x).length < (key s y).length) := fun o => by cases o <;> simp
    split
    · rw [List.append_nil]; exact hone _
    · split
      · rw [List.append_nil]; exact hone _
      · rename_i e he
        obtain ⟨hem, _⟩ := fnd_some he
        split
        · rename_i hp
          have hp' := List.isPrefixOf_iff_prefix.1 hp
          obtain ⟨lab, tg⟩ := e
          have hl : 0 < lab.length := List.length_pos_iff.2 (h.lab b d _ hb hem)
          have hle : lab.length ≤ r.length := hp'.length_le
          refine List.pairwise_append.2 ⟨hone _, ?_, fun x hx y hy => ?_⟩
          · cases tg with
            | leaf k2 => exact List.pairwise_singleton _ _
            | node b2 =>
              obtain ⟨d2, h1, h2⟩ := h.tgN b d _ b2 hb hem rfl
              exact pfx_sorted h f b2 d2 (r.drop lab.length) h1 (by rw [List.length_drop]; omega)
          · rw [Option.mem_toList] at hx
            obtain ⟨m, hm⟩ := h.chi b d x hb hx
            have hkx : key s x = d.path := key_of hm
            have hky : ∃ t, key s y = d.path ++ lab ++ t := by
              cases tg with
              | leaf k2 =>
                have : y = k2 := by simpa using hy
                subst this
                obtain ⟨m2, hm2⟩ := h.tgL b d _ y hb hem rfl
                exact ⟨[], by rw [key_of hm2, List.append_nil]⟩
              | node b2 =>
                obtain ⟨d2, h1, h2⟩ := h.tgN b d _ b2 hb hem rfl
                obtain ⟨q, m2, hm2, _⟩ := (pfx_mem h f b2 d2 (r.drop lab.length) y h1 (by rw [List.length_drop]; omega)).1 hy
                exact ⟨q, by rw [key_of hm2, h2]⟩
            obtain ⟨t, ht⟩ := hky
            rw [hkx, ht]
            simp only [List.length_append]
            omega
        · rw [List.append_nil]; exact hone _

/-! ### the order of texts -/
theorem bl_app : ∀ (p a b : Bs), bytesLess (p ++ a) (p ++ b) = bytesLess a b
  | [], _, _ => rfl
  | x :: p, a, b => by
    show (decide (x < x) || (x == x && bytesLess (p ++ a) (p ++ b))) = _
    rw [bl_app p a b]
    simp
theorem bl_nil {a : Bs} (h : a ≠ []) : bytesLess [] a = true := by
  cases a with
  | nil => exact absurd rfl h
  | cons x a => rfl
theorem bl_hd {a b : Bs} (ha : a ≠ []) (hb : b ≠ []) (h : hd a < hd b) : bytesLess a b = true := by
  cases a with
  | nil => exact absurd rfl ha
  | cons x a =>
    cases b with
    | nil => exact absurd rfl hb
    | cons y b =>
      have : x < y := by
        rw [UInt8.lt_iff_toNat_lt]; exact h
      show (decide (x < y) || _) = true
      rw [decide_eq_true this]; rfl

/-- All values are told. -/
theorem vals_mem {s : St} {root M : Nat} (h : Inv s root) (hM : ∀ b d, s.D b = some d → d.path.length ≤ M) : ∀ (f b : Nat) (d : Nd) (k : Nat), s.D b = some d → M - d.path.length < f → (k ∈ vals s f b ↔ ∃ q m, s.V k = some (d.path ++ q, m))
  | 0, _, _, _, _, hf => absurd hf (Nat.not_lt_zero _)
  | f + 1, b, d, k, hb, hf => by
    have hdep : ∀ e ∈ d.es, ∀ b2 d2, e.tg = .node b2 → s.D b2 = some d2 → d2.path = d.path ++ e.lab → M - d2.path.length < f := fun e he b2 d2 _ h2 h3 => by
      have h4 := hM b2 d2 h2
      have h5 := List.length_pos_iff.2 (h.lab b d e hb he)
      rw [h3, List.length_append] at h4 ⊢
      have h6 : d.path.length + e.lab.length ≤ M := h4
      have h7 : 0 < e.lab.length := h5
      show M - (d.path.length + e.lab.length) < f
      omega
    rw [vals_eq hb, List.mem_append, List.mem_flatMap]
    constructor
    · rintro (hc | ⟨e, he, hk⟩)
      · rw [Option.mem_toList] at hc
        obtain ⟨m, hm⟩ := h.chi b d k hb hc
        exact ⟨[], m, by rw [List.append_nil]; exact hm⟩
      · obtain ⟨lab, tg⟩ := e
        cases tg with
        | leaf k2 =>
          have : k = k2 := List.mem_singleton.1 hk
          subst this
          obtain ⟨m, hm⟩ := h.tgL b d _ k hb he rfl
          exact ⟨lab, m, hm⟩
        | node b2 =>
          obtain ⟨d2, h1, h2⟩ := h.tgN b d _ b2 hb he rfl
          obtain ⟨q, m, h3⟩ := (vals_mem h hM f b2 d2 k h1 (hdep _ he b2 d2 rfl h1 h2)).1 hk
          exact ⟨lab ++ q, m, by rw [h3, h2, List.append_assoc]⟩
    · rintro ⟨q, m, hk⟩
      rcases h.below hb hk with ⟨_, hc⟩ | ⟨e, he, h1, h2⟩
      · exact Or.inl (by rw [Option.mem_toList]; exact hc)
      · refine Or.inr ⟨e, he, ?_⟩
        obtain ⟨lab, tg⟩ := e
        cases tg with
        | leaf k2 => rw [h2 k2 rfl]; exact List.mem_singleton.2 rfl
        | node b2 =>
          obtain ⟨d2, h3, h4⟩ := h.tgN b d _ b2 hb he rfl
          obtain ⟨q', hq'⟩ := h1
          have hq2 : lab ++ q' = q := hq'
          subst hq2
          exact (vals_mem h hM f b2 d2 k h3 (hdep _ he b2 d2 rfl h3 h4)).2 ⟨q', m, by rw [hk, h4, List.append_assoc]⟩

/-- .. in the order of their keys. -/
theorem vals_sorted {s : St} {root M : Nat} (h : Inv s root) (hM : ∀ b d, s.D b = some d → d.path.length ≤ M) : ∀ (f b : Nat) (d : Nd), s.D b = some d → M - d.path.length < f → (vals s f b).Pairwise (fun x y => bytesLess (key s x) (key s y) = true)
  | 0, _, _, _, hf => absurd hf (Nat.not_lt_zero _)
  | f + 1, b, d, hb, hf => by
    have hdep : ∀ e ∈ d.es, ∀ b2 d2, e.tg = .node b2 → s.D b2 = some d2 → d2.path = d.path ++ e.lab → M - d2.path.length < f := fun e he b2 d2 _ h2 h3 => by
      have h4 := hM b2 d2 h2
      have h5 := List.length_pos_iff.2 (h.lab b d e hb he)
      rw [h3, List.length_append] at h4 ⊢
      have h6 : d.path.length + e.lab.length ≤ M := h4
      have h7 : 0 < e.lab.length := h5
      show M - (d.path.length + e.lab.length) < f
      omega
    have hkey : ∀ e ∈ d.es, ∀ k ∈ valE s f e, ∃ t, key s k = d.path ++ (e.lab ++ t) := fun e he k hk => by
      obtain ⟨lab, tg⟩ := e
      cases tg with
      | leaf k2 =>
        have : k = k2 := List.mem_singleton.1 hk
        subst this
        obtain ⟨m, hm⟩ := h.tgL b d _ k hb he rfl
        exact ⟨[], by rw [key_of hm, List.append_nil]⟩
      | node b2 =>
        obtain ⟨d2, h1, h2⟩ := h.tgN b d _ b2 hb he rfl
        obtain ⟨q, m, h3⟩ := (vals_mem h hM f b2 d2 k h1 (hdep _ he b2 d2 rfl h1 h2)).1 hk
        exact ⟨q, by rw [key_of h3, h2, List.append_assoc]⟩
    rw [vals_eq hb]
    refine List.pairwise_append.2 ⟨by cases d.child <;> simp, ?_, fun x hx y hy => ?_⟩
    · rw [List.pairwise_flatMap]
      refine ⟨fun e he => ?_, (h.sort b d hb).imp_of_mem (fun {e1 e2} he1 he2 hlt x hx y hy => ?_)⟩
      · obtain ⟨lab, tg⟩ := e
        cases tg with
        | leaf k2 => exact List.pairwise_singleton _ _
        | node b2 =>
          obtain ⟨d2, h1, h2⟩ := h.tgN b d _ b2 hb he rfl
          exact vals_sorted h hM f b2 d2 h1 (hdep _ he b2 d2 rfl h1 h2)
      · obtain ⟨t1, ht1⟩ := hkey e1 he1 x hx
        obtain ⟨t2, ht2⟩ := hkey e2 he2 y hy
        rw [ht1, ht2, bl_app]
        have n1 := h.lab b d e1 hb he1
        have n2 := h.lab b d e2 hb he2
        exact bl_hd (by simp [n1]) (by simp [n2]) (by rw [← pre_hd1 n1 (List.prefix_append e1.lab t1), ← pre_hd1 n2 (List.prefix_append e2.lab t2)]; exact hlt)
    · rw [Option.mem_toList] at hx
      obtain ⟨m, hm⟩ := h.chi b d x hb hx
      obtain ⟨e, he, hy⟩ := List.mem_flatMap.1 hy
      obtain ⟨t, ht⟩ := hkey e he y hy
      have hkx : key s x = d.path ++ [] := by rw [List.append_nil]; exact key_of hm
      rw [hkx, ht, bl_app]
      exact bl_nil (by simp [h.lab b d e hb he])
end Go.Proofs.YtjekaagjgamfkaaDoor.T
