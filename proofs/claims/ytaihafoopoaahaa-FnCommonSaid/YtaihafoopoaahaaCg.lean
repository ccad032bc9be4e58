/- Plain: the longest common prefix of some texts; the merge of the suffixes. No condition. -/
import Derived.Test.YtaihafoopoaahaaCe
import Derived.Test.YtaihafoopoaahaaQs
namespace Go.Proofs.Ytaihafoopoaahaa
open Go.RowKit

theorem lcp_all {M : List Bs} {C : Bs → Bs} {q : Bs} (h0 : ∀ m ∈ M, m ≠ []) (hmem : ∀ q, On (cntU M) q → ∀ c, c ∈ C q ↔ 0 < cntU M (q ++ [c])) (hw : WalkC C (cntU M) q) : ∀ j, j ≤ q.length → ∀ m ∈ M, q.take j <+: m
  | 0, _, m, _ => by simp
  | j + 1, hj, m, hm => by
    have ih := lcp_all h0 hmem hw j (by omega)
    obtain ⟨c, h1, h2, h3⟩ := hw j (by omega)
    rw [take_succ_snoc h2] at h3 ⊢
    rcases Nat.eq_zero_or_pos j with e | e
    · subst e
      rw [List.take_zero] at h1 ⊢
      obtain ⟨x, m', rfl⟩ : ∃ x m', m = x :: m' := by
        cases m with
        | nil => exact absurd rfl (h0 _ hm)
        | cons x m' => exact ⟨x, m', rfl⟩
      have h4 : x ∈ C [] := (hmem [] (Or.inl rfl) x).2 (cntU_pos.2 ⟨by simp, _, hm, by simp⟩)
      rw [h1, List.mem_singleton] at h4
      subst h4
      simp
    · have hne : q.take j ≠ [] := fun e2 => by
        have := congrArg List.length e2
        rw [List.length_take, List.length_nil] at this
        omega
      have h4 := (cntU_all (M := M) hne).2 ih
      have h5 := cntU_le M (q.take j ++ [c])
      exact (cntU_all (M := M) (snoc_ne _ _)).1 (by omega) m hm
theorem nodup_one {l : Bs} {c : UInt8} (hn : l.Nodup) (hc : c ∈ l) (h : ∀ x ∈ l, x = c) : l = [c] := by
  cases l with
  | nil => simp at hc
  | cons a l =>
    have ha := h a (List.mem_cons_self ..)
    subst ha
    congr 1
    cases l with
    | nil => rfl
    | cons b l =>
      have hb := h b (by simp)
      subst hb
      exact absurd (List.mem_cons_self ..) (List.nodup_cons.1 hn).1
/-- What LongestCommonPrefix finds. -/
theorem lcp_plain {M : List Bs} {C : Bs → Bs} {q : Bs} (hM : M ≠ []) (h0 : ∀ m ∈ M, m ≠ []) (hnd : ∀ q, On (cntU M) q → (C q).Nodup) (hmem : ∀ q, On (cntU M) q → ∀ c, c ∈ C q ↔ 0 < cntU M (q ++ [c])) (hq : LcpC C (cntU M) q) :
    (∀ m ∈ M, q <+: m) ∧ ∀ x, (∀ m ∈ M, x <+: m) → x.length ≤ q.length := by
  have h1 : ∀ m ∈ M, q <+: m := fun m hm => by
    have := lcp_all h0 hmem hq.2.1 q.length (Nat.le_refl _) m hm
    rwa [List.take_length] at this
  refine ⟨h1, fun x hx => ?_⟩
  rcases Nat.lt_or_ge q.length x.length with h2 | h2
  · exfalso
    obtain ⟨m0, hm0⟩ := List.exists_mem_of_ne_nil M hM
    obtain ⟨t, rfl⟩ := List.prefix_of_prefix_length_le (h1 m0 hm0) (hx m0 hm0) (by omega)
    obtain ⟨c, t', rfl⟩ : ∃ c t', t = c :: t' := by
      cases t with
      | nil => simp at h2
      | cons c t' => exact ⟨c, t', rfl⟩
    have h3 : ∀ m ∈ M, q ++ [c] <+: m := fun m hm => List.IsPrefix.trans ⟨t', by simp⟩ (hx m hm)
    have h4 := (cntU_all (M := M) (snoc_ne q c)).2 h3
    have h5 : c ∈ C q := (hmem q hq.1 c).2 (cntU_pos.2 ⟨snoc_ne _ _, m0, hm0, h3 m0 hm0⟩)
    have h6 : C q = [c] := nodup_one (hnd q hq.1) h5 (fun x hx2 => by
      obtain ⟨_, m, hm, h7⟩ := cntU_pos.1 ((hmem q hq.1 x).1 hx2)
      have h8 := List.prefix_of_prefix_length_le h7 (h3 m hm) (by simp)
      exact (snoc_inj (h8.eq_of_length (by simp))).2)
    have h7 := hq.2.2 c h6
    have h8 := cntU_le M q
    omega
  · exact h2

/-- What lies between two texts that begin with x begins with x. -/
theorem between : ∀ (x a b c : Bs), ¬ b < a → ¬ c < b → x <+: a → x <+: c → x <+: b
  | [], _, _, _, _, _, _, _ => List.nil_prefix
  | u :: x, a, b, c, h1, h2, ⟨a', ha⟩, ⟨c', hc⟩ => by
    subst ha; subst hc
    cases b with
    | nil => exact absurd (List.nil_lt_cons _ _) h1
    | cons v b =>
      rw [List.cons_append, List.cons_lt_cons_iff] at h1
      rw [List.cons_append, List.cons_lt_cons_iff] at h2
      have hvu : ¬ v < u := fun h => h1 (Or.inl h)
      have huv : ¬ u < v := fun h => h2 (Or.inl h)
      have e : u = v := by
        apply UInt8.toNat_inj.1
        rw [UInt8.lt_iff_toNat_lt] at hvu huv
        omega
      subst e
      have h3 := between x (x ++ a') b (x ++ c') (fun h => h1 (Or.inr ⟨rfl, h⟩)) (fun h => h2 (Or.inr ⟨rfl, h⟩)) ⟨a', rfl⟩ ⟨c', rfl⟩
      obtain ⟨t, ht⟩ := h3
      exact ⟨t, by rw [List.cons_append, ht]⟩

/-- The a-th suffix of a text, in their order. -/
abbrev sf (T : Nat → Bs) (p : Nat → Nat → Nat) (i a : Nat) : Bs := (T i).drop (p i a)

/-- The merge: h i suffixes of the text i are taken; z is the answer so far. -/
structure Mg (k : Nat) (T : Nat → Bs) (p : Nat → Nat → Nat) (h : Nat → Nat) (z : Bs) : Prop where
  le : ∀ i, i < k → h i ≤ (T i).length
  bef : ∀ i a j b, i < k → j < k → a < h i → h j ≤ b → b < (T j).length → ¬ sf T p j b < sf T p i a
  com : ∀ i, i < k → z <:+: T i
  max : ∀ x, x ≠ [] → (∀ i, i < k → x <:+: T i) → (∀ i, i < k → ∀ a, a < (T i).length → x <+: sf T p i a → a < h i) → x.length ≤ z.length

def updN (h : Nat → Nat) (m v : Nat) : Nat → Nat := fun i => if i = m then v else h i

theorem Mg.start (k : Nat) (T : Nat → Bs) (p : Nat → Nat → Nat) (hk : 0 < k) (hp : ∀ i, i < k → SufArr (T i) (T i).length (p i)) : Mg k T p (fun _ => 0) [] :=
  ⟨fun _ _ => Nat.zero_le _, fun _ _ _ _ _ _ h => absurd h (by omega), fun i _ => List.nil_infix, fun x h0 hx hd => by
    obtain ⟨s, t, e⟩ := hx 0 hk
    have hl : s.length < (T 0).length := by
      rw [← e]
      have := List.length_pos_iff.2 h0
      simp
      omega
    obtain ⟨a, ha, hpa⟩ := (hp 0 hk).pm.sur s.length hl
    have := hd 0 hk a ha (by
      show x <+: (T 0).drop (p 0 a)
      rw [hpa, ← e, List.append_assoc, List.drop_left]
      exact List.prefix_append _ _)
    omega⟩

theorem Mg.next {k : Nat} {T : Nat → Bs} {p : Nat → Nat → Nat} {h : Nat → Nat} {z : Bs} (g : Mg k T p h z) (hp : ∀ i, i < k → SufArr (T i) (T i).length (p i)) {m : Nat} (hm : m < k) (hlt : h m < (T m).length)
    (hmin : ∀ i, i < k → h i < (T i).length → ¬ sf T p i (h i) < sf T p m (h m)) (z' : Bs) (hz : ∀ i, i < k → z' <:+: T i) (hzz : z.length ≤ z'.length)
    (hq : (∀ i, i < k → 0 < updN h m (h m + 1) i) → ∀ x, (∀ i, i < k → x <+: sf T p i (updN h m (h m + 1) i - 1)) → x.length ≤ z'.length) : Mg k T p (updN h m (h m + 1)) z' := by
  have hle : ∀ i, h i ≤ updN h m (h m + 1) i := fun i => by
    unfold updN
    split
    · rename_i e; subst e; omega
    · exact Nat.le_refl _
  have hord : ∀ j, j < k → ∀ a b, a ≤ b → b < (T j).length → ¬ sf T p j b < sf T p j a := fun j hj a b hab hb => by
    rcases Nat.eq_or_lt_of_le hab with e | e
    · subst e; exact List.lt_irrefl _
    · exact List.lt_asymm ((hp j hj).ord a b e hb)
  refine ⟨fun i hi => ?_, fun i a j b hi hj ha hjb hb => ?_, hz, fun x h0 hx hd => ?_⟩
  · unfold updN
    split
    · rename_i e; subst e; omega
    · exact g.le i hi
  · have hjb2 : h j ≤ b := Nat.le_trans (hle j) hjb
    by_cases h1 : a < h i
    · exact g.bef i a j b hi hj h1 hjb2 hb
    · unfold updN at ha
      split at ha
      · rename_i e
        subst e
        obtain rfl : a = h i := by omega
        intro h2
        rcases Nat.eq_or_lt_of_le hjb2 with e | e
        · rw [← e] at h2
          exact hmin j hj (by omega) h2
        · exact hmin j hj (by omega) (List.lt_trans ((hp j hj).ord (h j) b e hb) h2)
      · exact absurd ha h1
  · by_cases hold : ∀ i, i < k → ∀ a, a < (T i).length → x <+: sf T p i a → a < h i
    · exact Nat.le_trans (g.max x h0 hx hold) hzz
    · -- the suffix that was taken last begins with x
      have hlast : x <+: sf T p m (h m) := by
        rcases Classical.em (x <+: sf T p m (h m)) with h1 | h1
        · exact h1
        · exfalso
          apply hold
          intro i hi a ha hxa
          have h2 := hd i hi a ha hxa
          unfold updN at h2
          split at h2
          · rename_i e
            subst e
            rcases Nat.lt_or_ge a (h i) with h3 | h3
            · exact h3
            · obtain rfl : a = h i := by omega
              exact absurd hxa h1
          · exact h2
      have hex : ∀ i, i < k → ∃ a, a < (T i).length ∧ x <+: sf T p i a := fun i hi => by
        obtain ⟨s, t, e⟩ := hx i hi
        have hl : s.length < (T i).length := by
          rw [← e]
          have := List.length_pos_iff.2 h0
          simp
          omega
        obtain ⟨a, ha, hpa⟩ := (hp i hi).pm.sur s.length hl
        refine ⟨a, ha, ?_⟩
        show x <+: (T i).drop (p i a)
        rw [hpa, ← e, List.append_assoc, List.drop_left]
        exact List.prefix_append _ _
      have hpos : ∀ i, i < k → 0 < updN h m (h m + 1) i := fun i hi => by
        obtain ⟨a, ha, hxa⟩ := hex i hi
        have := hd i hi a ha hxa
        omega
      refine hq hpos x (fun i hi => ?_)
      obtain ⟨a, ha, hxa⟩ := hex i hi
      have h1 := hd i hi a ha hxa
      have hlen : updN h m (h m + 1) i - 1 < (T i).length := by
        have h2 := g.le i hi
        unfold updN at h1 ⊢
        split
        · rename_i e; subst e; omega
        · rename_i e
          rw [if_neg e] at h1
          omega
      refine between x (sf T p i a) (sf T p i (updN h m (h m + 1) i - 1)) (sf T p m (h m)) (hord i hi a _ (by omega) hlen) ?_ hxa hlast
      by_cases e : i = m
      · subst e
        have : updN h i (h i + 1) i - 1 = h i := by unfold updN; rw [if_pos rfl]; omega
        rw [this]
        exact List.lt_irrefl _
      · have e2 : updN h m (h m + 1) i = h i := by unfold updN; rw [if_neg e]
        rw [e2] at h1 ⊢
        exact g.bef i (h i - 1) m (h m) hi hm (by omega) (Nat.le_refl _) hlt
theorem Mg.done {k : Nat} {T : Nat → Bs} {p : Nat → Nat → Nat} {h : Nat → Nat} {z : Bs} (g : Mg k T p h z) (hall : ∀ i, i < k → (T i).length ≤ h i) : ∀ x, (∀ i, i < k → x <:+: T i) → x.length ≤ z.length := by
  intro x hx
  by_cases h0 : x = []
  · subst h0; simp
  · exact g.max x h0 hx (fun i hi a ha _ => Nat.lt_of_lt_of_le ha (hall i hi))
end Go.Proofs.Ytaihafoopoaahaa
