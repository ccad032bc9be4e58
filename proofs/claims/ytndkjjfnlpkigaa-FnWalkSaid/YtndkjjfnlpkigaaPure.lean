/- The plain law of the reference's Far: stages of a breadth-first search over a list of nodes. No program. -/
import Derived.Test.YtndkjjfnlpkigaaCommon
namespace Go.Proofs.Ytndkjjfnlpkigaa

/-- The neighbours of a node. -/
def adj (G : List (List Int)) (n : Int) : List Int := if n < 0 then [] else G.getD n.toNat []

/-- One neighbour is added, with its distance. -/
def addF (d : Int) (p : List Int × List Int) (v : Int) : List Int × List Int := if v ∈ p.1 then p else (p.1 ++ [v], p.2 ++ [d])
def extF (d : Int) (p : List Int × List Int) (q : List Int) : List Int × List Int := q.foldl (addF d) p

/-- The nodes and their distances behind i rounds. -/
def stage (G : List (List Int)) (a : Int) : Nat → List Int × List Int
  | 0 => ([a], [0])
  | i + 1 => match (stage G a i).1[i]? with
    | none => stage G a i
    | some x => extF ((stage G a i).2.getD i 0 + 1) (stage G a i) (adj G x)

theorem extF_snoc (d : Int) (p : List Int × List Int) (q : List Int) (v : Int) : extF d p (q ++ [v]) = addF d (extF d p q) v := by
  simp [extF]

theorem stage_succ {G : List (List Int)} {a : Int} {i : Nat} {x : Int} (h : (stage G a i).1[i]? = some x) : stage G a (i + 1) = extF ((stage G a i).2.getD i 0 + 1) (stage G a i) (adj G x) := by
  show (match (stage G a i).1[i]? with | none => stage G a i | some x => extF ((stage G a i).2.getD i 0 + 1) (stage G a i) (adj G x)) = _
  rw [h]

/-- What is true of a pair of lists of nodes and distances. -/
structure Good (G : List (List Int)) (a : Int) (p : List Int × List Int) : Prop where
  len : p.1.length = p.2.length
  nodup : p.1.Nodup
  head : p.1[0]? = some a
  bound : ∀ (j : Nat) (d : Int), p.2[j]? = some d → 0 ≤ d ∧ d ≤ j
  mem : ∀ x ∈ p.1, x ∈ a :: G.flatten

theorem addF_good {G : List (List Int)} {a : Int} {p : List Int × List Int} {d v : Int} (h : Good G a p) (hd0 : 0 ≤ d) (hd : d ≤ p.1.length) (hv : v ∈ a :: G.flatten) : Good G a (addF d p v) := by
  unfold addF
  split
  · exact h
  · rename_i hn
    refine ⟨by simp [h.len], ?_, ?_, ?_, ?_⟩
    · rw [List.nodup_append]
      exact ⟨h.nodup, by simp, fun x hx y hy e => hn (by rw [List.mem_singleton.1 hy] at e; exact e ▸ hx)⟩
    · have h1 : 0 < p.1.length := (List.getElem?_eq_some_iff.1 h.head).1
      show (p.1 ++ [v])[0]? = some a
      rw [List.getElem?_append_left h1]; exact h.head
    · intro j e hj
      show 0 ≤ e ∧ e ≤ j
      have hj' : (p.2 ++ [d])[j]? = some e := hj
      rcases Nat.lt_or_ge j p.2.length with h1 | h1
      · rw [List.getElem?_append_left h1] at hj'
        exact h.bound j e hj'
      · have h2 : j < (p.2 ++ [d]).length := (List.getElem?_eq_some_iff.1 hj').1
        rw [List.getElem?_append_right h1] at hj'
        have h3 : j = p.2.length := by simp at h2; omega
        rw [h3] at hj'
        simp at hj'
        have := h.len
        omega
    · intro x hx
      rcases List.mem_append.1 hx with hx | hx
      · exact h.mem x hx
      · rw [List.mem_singleton.1 hx]; exact hv

theorem addF_len {p : List Int × List Int} {d v : Int} : p.1.length ≤ (addF d p v).1.length := by
  unfold addF
  split <;> simp

theorem extF_good {G : List (List Int)} {a : Int} {d : Int} (hd0 : 0 ≤ d) : ∀ (q : List Int) (p : List Int × List Int), Good G a p → d ≤ p.1.length → (∀ v ∈ q, v ∈ a :: G.flatten) → Good G a (extF d p q)
  | [], _, h, _, _ => h
  | v :: q, p, h, hd, hq => by
    have h1 := addF_good h hd0 hd (hq v (List.mem_cons_self ..))
    have h2 : d ≤ (addF d p v).1.length := by have := addF_len (p := p) (d := d) (v := v); omega
    exact extF_good hd0 q _ h1 h2 (fun x hx => hq x (List.mem_cons_of_mem _ hx))

theorem adj_mem {G : List (List Int)} {x y : Int} (h : y ∈ adj G x) : y ∈ G.flatten := by
  unfold adj at h
  split at h
  · cases h
  · rw [List.getD_eq_getElem?_getD] at h
    cases hg : G[x.toNat]? with
    | none => rw [hg] at h; cases h
    | some g =>
      rw [hg] at h
      exact List.mem_flatten.2 ⟨g, List.mem_of_getElem? hg, h⟩

theorem stage_good (G : List (List Int)) (a : Int) : ∀ i, Good G a (stage G a i)
  | 0 => by
    refine ⟨rfl, by simp [stage], rfl, ?_, by simp [stage]⟩
    intro j d hj
    match j with
    | 0 => have : d = 0 := by simpa [stage] using hj.symm
           omega
    | j + 1 => simp [stage] at hj
  | i + 1 => by
    have h := stage_good G a i
    cases hx : (stage G a i).1[i]? with
    | none =>
      show Good G a (match (stage G a i).1[i]? with | none => stage G a i | some x => _)
      rw [hx]; exact h
    | some x =>
      rw [stage_succ hx]
      have hi : i < (stage G a i).1.length := (List.getElem?_eq_some_iff.1 hx).1
      have hi2 : i < (stage G a i).2.length := by rw [← h.len]; exact hi
      have hb := h.bound i _ (List.getElem?_eq_getElem hi2)
      have e : (stage G a i).2.getD i 0 = (stage G a i).2[i] := by rw [List.getD_eq_getElem?_getD, List.getElem?_eq_getElem hi2]; rfl
      rw [e]
      exact extF_good (by omega) _ _ h (by omega) (fun v hv => List.mem_cons_of_mem _ (adj_mem hv))

theorem nodup_le : ∀ (l U : List Int), l.Nodup → (∀ x ∈ l, x ∈ U) → l.length ≤ U.length
  | [], _, _, _ => by simp
  | x :: l, U, hn, hs => by
    have hn' := List.nodup_cons.1 hn
    have hx : x ∈ U := hs x (List.mem_cons_self ..)
    have h1 := nodup_le l (U.erase x) hn'.2 (fun y hy => (List.mem_erase_of_ne (fun e => hn'.1 (by rw [← e]; exact hy))).2 (hs y (List.mem_cons_of_mem _ hy)))
    rw [List.length_erase_of_mem hx] at h1
    have : 0 < U.length := List.length_pos_of_mem hx
    simp; omega

theorem mem_addF {d v y : Int} {p : List Int × List Int} : y ∈ (addF d p v).1 ↔ y ∈ p.1 ∨ y = v := by
  unfold addF
  split
  · rename_i h
    exact ⟨Or.inl, fun h' => h'.elim id (fun e => e ▸ h)⟩
  · simp

theorem mem_extF {d y : Int} : ∀ (q : List Int) (p : List Int × List Int), y ∈ (extF d p q).1 ↔ y ∈ p.1 ∨ y ∈ q
  | [], _ => by simp [extF]
  | v :: q, p => by
    show y ∈ (extF d (addF d p v) q).1 ↔ _
    rw [mem_extF q, mem_addF]
    simp [or_assoc]

/-- A list that a stage extends. -/
theorem addF_pre {d v : Int} {p : List Int × List Int} : p.1 <+: (addF d p v).1 ∧ p.2 <+: (addF d p v).2 := by
  unfold addF
  split
  · exact ⟨List.prefix_refl _, List.prefix_refl _⟩
  · exact ⟨List.prefix_append _ _, List.prefix_append _ _⟩
theorem extF_pre {d : Int} : ∀ (q : List Int) (p : List Int × List Int), p.1 <+: (extF d p q).1 ∧ p.2 <+: (extF d p q).2
  | [], _ => ⟨List.prefix_refl _, List.prefix_refl _⟩
  | v :: q, p => ⟨addF_pre.1.trans (extF_pre q (addF d p v)).1, addF_pre.2.trans (extF_pre q (addF d p v)).2⟩
theorem stage_pre (G : List (List Int)) (a : Int) (i : Nat) : (stage G a i).1 <+: (stage G a (i + 1)).1 ∧ (stage G a i).2 <+: (stage G a (i + 1)).2 := by
  cases hx : (stage G a i).1[i]? with
  | none =>
    show (stage G a i).1 <+: (match (stage G a i).1[i]? with | none => stage G a i | some x => _).1 ∧ (stage G a i).2 <+: (match (stage G a i).1[i]? with | none => stage G a i | some x => _).2
    rw [hx]; exact ⟨List.prefix_refl _, List.prefix_refl _⟩
  | some x => rw [stage_succ hx]; exact extF_pre _ _

theorem pre_get {l l' : List Int} (h : l <+: l') {j : Nat} {x : Int} (hj : l[j]? = some x) : l'[j]? = some x := by
  obtain ⟨t, rfl⟩ := h
  rw [List.getElem?_append_left (List.getElem?_eq_some_iff.1 hj).1]; exact hj

/-- All neighbours of a node whose turn has been are there. -/
theorem stage_closed (G : List (List Int)) (a : Int) : ∀ i j x, j < i → (stage G a i).1[j]? = some x → ∀ y ∈ adj G x, y ∈ (stage G a i).1
  | 0, _, _, h, _ => by omega
  | i + 1, j, x, h, hx => by
    intro y hy
    have hi : j < (stage G a i).1.length ∨ (stage G a i).1.length ≤ j := Nat.lt_or_ge _ _
    cases hxi : (stage G a i).1[i]? with
    | none =>
      have e : stage G a (i + 1) = stage G a i := by
        show (match (stage G a i).1[i]? with | none => stage G a i | some x => _) = _
        rw [hxi]
      rw [e] at hx ⊢
      have h1 : j < (stage G a i).1.length := (List.getElem?_eq_some_iff.1 hx).1
      have h2 : (stage G a i).1.length ≤ i := List.getElem?_eq_none_iff.1 hxi
      exact stage_closed G a i j x (by omega) hx y hy
    | some z =>
      have hzl : i < (stage G a i).1.length := (List.getElem?_eq_some_iff.1 hxi).1
      have hjl : (stage G a i).1[j]? = some x := by
        have h1 : (stage G a i).1[j]? = some ((stage G a i).1[j]'(by omega)) := List.getElem?_eq_getElem (by omega)
        have := pre_get (stage_pre G a i).1 h1
        rw [hx] at this
        rw [h1, this]
      rcases Nat.lt_or_ge j i with hji | hji
      · have h3 := stage_closed G a i j x hji hjl y hy
        rw [stage_succ hxi, mem_extF]
        exact Or.inl h3
      · have : j = i := by omega
        subst this
        rw [hjl] at hxi
        injection hxi with hxi
        subst hxi
        rw [stage_succ hjl, mem_extF]
        exact Or.inr hy

/-- Whatever holds of the start and goes from node to neighbour holds of all nodes of a stage. -/
theorem stage_ind (G : List (List Int)) (a : Int) (R : Int → Prop) (h0 : R a) (hs : ∀ x, R x → ∀ y ∈ adj G x, R y) : ∀ i, ∀ x ∈ (stage G a i).1, R x
  | 0, x, hx => by
    have : x = a := by simpa [stage] using hx
    rw [this]; exact h0
  | i + 1, x, hx => by
    have ih := stage_ind G a R h0 hs i
    cases hxi : (stage G a i).1[i]? with
    | none =>
      have e : stage G a (i + 1) = stage G a i := by
        show (match (stage G a i).1[i]? with | none => stage G a i | some x => _) = _
        rw [hxi]
      rw [e] at hx
      exact ih x hx
    | some z =>
      rw [stage_succ hxi, mem_extF] at hx
      rcases hx with hx | hx
      · exact ih x hx
      · exact hs z (ih z (List.mem_of_getElem? hxi)) x hx
end Go.Proofs.Ytndkjjfnlpkigaa
