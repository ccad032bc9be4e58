/- FnTrie, the plain law: the specification's entries, and that the trie answers hasy they say. No condition. -/
import Derived.Test.YtjekaagjgamfkaaDoorBg
import Derived.Test.YtjekaagjgamfkaaDoorPw
namespace Go.Proofs.YtjekaagjgamfkaaDoor
open Go.RowKit T
open Go.Op (bytesLess)

theorem bl_total : ∀ a b : Bs, (!(bytesLess a b || a == b)) = bytesLess b a
  | [], [] => by decide
  | [], c :: b => by simp [bytesLess]
  | c :: a, [] => by simp [bytesLess]
  | c :: a, d :: b => by
    have ih := bl_total a b
    unfold bytesLess
    by_cases h1 : c < d
    · have h2 : ¬ d < c := by
        rw [UInt8.lt_iff_toNat_lt] at h1 ⊢; omega
      have h3 : (d == c) = false := by
        rw [beq_eq_false_iff_ne]; rintro rfl; exact h2 h1
      simp [h1, h2, h3]
    · by_cases h2 : d < c
      · have h3 : (c == d) = false := by
          rw [beq_eq_false_iff_ne]; rintro rfl; exact h1 h2
        have h4 : (c :: a == d :: b) = false := by
          rw [List.cons_beq_cons, h3]; rfl
        simp [h1, h2, h3, h4]
      · have h3 : c = d := by
          apply UInt8.toNat_inj.1
          rw [UInt8.lt_iff_toNat_lt] at h1 h2; omega
        subst h3
        rw [List.cons_beq_cons]
        simp only [h1, decide_false, BEq.rfl, Bool.true_and, Bool.false_or]
        exact ih
theorem bl_asymm : ∀ a b : Bs, bytesLess a b = true → bytesLess b a = true → False := fun a b h1 h2 => by
  rw [← bl_total a b, h1] at h2
  simp at h2
theorem bl_trans : ∀ a b c : Bs, bytesLess a b = true → bytesLess b c = true → bytesLess a c = true
  | [], b, [], h1, h2 => by cases b <;> simp [bytesLess] at h2
  | [], _, c :: z, _, _ => rfl
  | x :: a, [], c, h1, _ => by simp [bytesLess] at h1
  | x :: a, y :: b, [], _, h2 => by simp [bytesLess] at h2
  | x :: a, y :: b, z :: c, h1, h2 => by
    have ih := bl_trans a b c
    simp only [bytesLess, Bool.or_eq_true, Bool.and_eq_true, decide_eq_true_eq, beq_iff_eq] at h1 h2 ⊢
    rw [UInt8.lt_iff_toNat_lt] at h1 h2 ⊢
    rcases h1 with h1 | ⟨rfl, h1⟩
    · rcases h2 with h2 | ⟨rfl, h2⟩
      · exact Or.inl (by omega)
      · exact Or.inl h1
    · rcases h2 with h2 | ⟨rfl, h2⟩
      · exact Or.inl h2
      · exact Or.inr ⟨rfl, ih h1 h2⟩

/-- Two lists in one strict order with the same members are one. -/
theorem pw_unique {α : Type} {R : α → α → Prop} (hasy : ∀ a b, R a b → R b a → False) : ∀ l1 l2 : List α, l1.Pairwise R → l2.Pairwise R → (∀ x, x ∈ l1 ↔ x ∈ l2) → l1 = l2
  | [], [], _, _, _ => rfl
  | [], b :: l2, _, _, h => by have := (h b).2 (List.mem_cons_self ..); cases this
  | a :: l1, [], _, _, h => by have := (h a).1 (List.mem_cons_self ..); cases this
  | a :: l1, b :: l2, h1, h2, h => by
    rw [List.pairwise_cons] at h1 h2
    have hab : a = b := by
      rcases List.mem_cons.1 ((h a).1 (List.mem_cons_self ..)) with e | ha
      · exact e
      · rcases List.mem_cons.1 ((h b).2 (List.mem_cons_self ..)) with e | hb
        · exact e.symm
        · exact (hasy a b (h1.1 b hb) (h2.1 a ha)).elim
    subst hab
    rw [pw_unique hasy l1 l2 h1.2 h2.2 (fun x => ⟨fun hx => ?_, fun hx => ?_⟩)]
    · rcases List.mem_cons.1 ((h x).1 (List.mem_cons_of_mem _ hx)) with e | hx2
      · subst e; exact (hasy _ _ (h1.1 _ hx) (h1.1 _ hx)).elim
      · exact hx2
    · rcases List.mem_cons.1 ((h x).2 (List.mem_cons_of_mem _ hx)) with e | hx2
      · subst e; exact (hasy _ _ (h2.1 _ hx) (h2.1 _ hx)).elim
      · exact hx2

/-! ### spec.Entries -/
/-- Where a key goes: ahead of the first that is greater. -/
def atE (E : List (Bs × Int)) (k : Bs) : Nat := E.findIdx (fun p => bytesLess k p.1)
def insE (E : List (Bs × Int)) (k : Bs) (n : Int) : List (Bs × Int) := if E.any (fun p => p.1 == k) then E else E.take (atE E k) ++ (k, n) :: E.drop (atE E k)
def entE (ks : List Bs) : Nat → List (Bs × Int)
  | 0 => []
  | i + 1 => match ks[i]? with
    | none => entE ks i
    | some k => insE (entE ks i) k ((i : Int) + 1)

/-- Sorted, each key with its first number. -/
structure EntOk (E : List (Bs × Int)) (l : List Bs) : Prop where
  sort : E.Pairwise (fun a b => bytesLess a.1 b.1 = true)
  mem : ∀ p, p ∈ E ↔ p.1 ∈ l ∧ p.2 = (l.idxOf p.1 : Int) + 1

theorem EntOk.insE {E : List (Bs × Int)} {l : List Bs} (h : EntOk E l) (k : Bs) : EntOk (insE E k ((l.length : Int) + 1)) (l ++ [k]) := by
  have hmem : ∀ p : Bs × Int, p.1 ∈ l → (l ++ [k]).idxOf p.1 = l.idxOf p.1 := fun p hp => by rw [List.idxOf_append, if_pos hp]
  unfold YtjekaagjgamfkaaDoor.insE
  by_cases hk : E.any (fun p => p.1 == k) = true
  · rw [if_pos hk]
    obtain ⟨p, hp, hpk⟩ := List.any_eq_true.1 hk
    have hpk : p.1 = k := by simpa using hpk
    have hkl : k ∈ l := hpk ▸ ((h.mem p).1 hp).1
    refine ⟨h.sort, fun q => ?_⟩
    rw [h.mem q, List.mem_append, List.mem_singleton]
    constructor
    · rintro ⟨h1, h2⟩
      exact ⟨Or.inl h1, by rw [hmem q h1]; exact h2⟩
    · rintro ⟨h1, h2⟩
      have h3 : q.1 ∈ l := by rcases h1 with h1 | h1; exact h1; rw [h1]; exact hkl
      exact ⟨h3, by rw [hmem q h3] at h2; exact h2⟩
  · rw [if_neg hk]
    have hnk : ∀ p ∈ E, p.1 ≠ k := fun p hp e => hk (List.any_eq_true.2 ⟨p, hp, by simp [e]⟩)
    have hkl : k ∉ l := fun hkl => hnk (k, (l.idxOf k : Int) + 1) ((h.mem _).2 ⟨hkl, rfl⟩) rfl
    have hE : E.take (atE E k) ++ E.drop (atE E k) = E := List.take_append_drop _ _
    have hs := h.sort
    rw [← hE, List.pairwise_append] at hs
    have htk : ∀ p ∈ E.take (atE E k), bytesLess p.1 k = true := fun p hp => by
      obtain ⟨i, hi⟩ := List.mem_iff_getElem?.1 hp
      rw [List.getElem?_take] at hi
      split at hi
      case isFalse => cases hi
      case isTrue hlt =>
        obtain ⟨h1, h2⟩ := List.getElem?_eq_some_iff.1 hi
        have h3 := List.not_of_lt_findIdx hlt
        rw [← bl_total k p.1] 
        have h4 : bytesLess k p.1 = false := by rw [← h2]; simpa using h3
        have h5 : (k == p.1) = false := by
          have := hnk p (List.mem_of_mem_take hp)
          simpa using fun e => this (by simpa using Eq.symm e)
        rw [h4, h5]
        rfl
    have hdr : ∀ p ∈ E.drop (atE E k), bytesLess k p.1 = true := fun p hp => by
      obtain ⟨i, hi⟩ := List.mem_iff_getElem?.1 hp
      rw [List.getElem?_drop] at hi
      have hlt : atE E k < E.length := by
        have := (List.getElem?_eq_some_iff.1 hi).1
        omega
      have h1 : bytesLess k (E[atE E k]).1 = true := List.findIdx_getElem (w := hlt)
      rcases Nat.eq_zero_or_pos i with h0 | h0
      · subst h0
        rw [Nat.add_zero, List.getElem?_eq_getElem hlt] at hi
        rw [← Option.some.inj hi]
        exact h1
      · obtain ⟨h2, h3⟩ := List.getElem?_eq_some_iff.1 hi
        have h4 := List.pairwise_iff_getElem.1 h.sort (atE E k) (atE E k + i) hlt h2 (by omega)
        rw [h3] at h4
        exact bl_trans _ _ _ h1 h4
    refine ⟨?_, fun q => ?_⟩
    · rw [List.pairwise_append, List.pairwise_cons]
      refine ⟨hs.1, ⟨fun p hp => hdr p hp, hs.2.1⟩, fun p hp q hq => ?_⟩
      rcases List.mem_cons.1 hq with rfl | hq
      · exact htk p hp
      · exact hs.2.2 p hp q hq
    · have hq : q ∈ E.take (atE E k) ++ (k, (l.length : Int) + 1) :: E.drop (atE E k) ↔ q = (k, (l.length : Int) + 1) ∨ q ∈ E := by
        conv => rhs; rw [← hE]
        simp only [List.mem_append, List.mem_cons]
        constructor
        · rintro (h | h | h)
          · exact Or.inr (Or.inl h)
          · exact Or.inl h
          · exact Or.inr (Or.inr h)
        · rintro (h | h | h)
          · exact Or.inr (Or.inl h)
          · exact Or.inl h
          · exact Or.inr (Or.inr h)
      rw [hq, h.mem q, List.mem_append, List.mem_singleton]
      constructor
      · rintro (rfl | ⟨h1, h2⟩)
        · refine ⟨Or.inr rfl, ?_⟩
          show _ = ((l ++ [k]).idxOf k : Int) + 1
          rw [List.idxOf_append, if_neg hkl]
          simp
        · exact ⟨Or.inl h1, by rw [hmem q h1]; exact h2⟩
      · rintro ⟨h1 | h1, h2⟩
        · exact Or.inr ⟨h1, by rw [hmem q h1] at h2; exact h2⟩
        · left
          rw [h1, List.idxOf_append, if_neg hkl] at h2
          exact Prod.ext h1 (by rw [h2]; simp)

theorem entE_ok (ks : List Bs) : ∀ i, EntOk (entE ks i) (ks.take i)
  | 0 => ⟨List.Pairwise.nil, fun p => by simp [entE]⟩
  | i + 1 => by
    have ih := entE_ok ks i
    show EntOk (match ks[i]? with | none => entE ks i | some k => insE (entE ks i) k ((i : Int) + 1)) _
    cases hk : ks[i]? with
    | none =>
      have h1 := List.getElem?_eq_none_iff.1 hk
      show EntOk (entE ks i) _
      rw [List.take_of_length_le (by omega)]
      rw [List.take_of_length_le (by omega)] at ih
      exact ih
    | some k =>
      show EntOk (insE (entE ks i) k ((i : Int) + 1)) _
      rw [take_succ hk]
      have hl : (ks.take i).length = i := by
        have := (List.getElem?_eq_some_iff.1 hk).1
        rw [List.length_take]; omega
      have := ih.insE k
      rw [hl] at this
      exact this
end Go.Proofs.YtjekaagjgamfkaaDoor
