/- Plain law of initGroups: groups of like first bytes; the last suffix set apart. No condition. -/
import Derived.Test.YtaihafoopoaahaaSb0
import Derived.Test.YtaihafoopoaahaaSu5
namespace Go.Proofs.Ytaihafoopoaahaa

/-- e is the last place of k's group. -/
structure LastOf (y : Nat → Nat) (n k e : Nat) : Prop where
  le : k ≤ e
  lt : e < n
  same : ∀ j, k ≤ j → j ≤ e → y j = y k
  stop : e + 1 = n ∨ y e < y (e + 1)

/-- k is alone in its group. -/
def Sing (y : Nat → Nat) (n k : Nat) : Prop := (k = 0 ∨ y (k - 1) < y k) ∧ (k + 1 = n ∨ y k < y (k + 1))
instance (y : Nat → Nat) (n k : Nat) : Decidable (Sing y n k) := by unfold Sing; infer_instance

section
variable {y : Nat → Nat} {n k e e' j : Nat}
theorem LastOf.uniq (a : LastOf y n k e) (b : LastOf y n k e') : e = e' := by
  rcases Nat.lt_trichotomy e e' with h | h | h
  · rcases a.stop with h1 | h1
    · have := b.lt; omega
    · rw [b.same e a.le (by omega), b.same (e + 1) (by have := a.le; omega) h] at h1; omega
  · exact h
  · rcases b.stop with h1 | h1
    · have := a.lt; omega
    · rw [a.same e' b.le (by omega), a.same (e' + 1) (by have := b.le; omega) h] at h1; omega
theorem LastOf.up (a : LastOf y n k e) (h1 : k ≤ j) (h2 : j ≤ e) : LastOf y n j e :=
  ⟨h2, a.lt, fun i h3 h4 => by rw [a.same i (by omega) h4, a.same j h1 h2], a.stop⟩
theorem LastOf.above (a : LastOf y n k e) (hm : ∀ i j, i ≤ j → j < n → y i ≤ y j) (h1 : e < j) (h2 : j < n) : y k < y j := by
  rcases a.stop with h3 | h3
  · omega
  · have := hm (e + 1) j h1 h2
    rw [a.same e a.le (Nat.le_refl _)] at h3
    omega
theorem LastOf.get (hm : ∀ i j, i ≤ j → j < n → y i ≤ y j) : ∀ m k, k + m + 1 = n → ∃ e, LastOf y n k e
  | 0, k, h => ⟨k, Nat.le_refl _, by omega, fun j h1 h2 => by rw [show j = k by omega], Or.inl (by omega)⟩
  | m + 1, k, h => by
    by_cases h1 : y k < y (k + 1)
    · exact ⟨k, Nat.le_refl _, by omega, fun j h1 h2 => by rw [show j = k by omega], Or.inr h1⟩
    · have h2 : y (k + 1) = y k := by have := hm k (k + 1) (by omega) (by omega); omega
      obtain ⟨e, he⟩ := LastOf.get hm m (k + 1) (by omega)
      have := he.le
      refine ⟨e, by omega, he.lt, fun j h3 h4 => ?_, he.stop⟩
      by_cases h5 : j = k
      · rw [h5]
      · rw [he.same j (by omega) h4, h2]
theorem LastOf.of_eq (a : LastOf y n k e) (hm : ∀ i j, i ≤ j → j < n → y i ≤ y j) (hj : j < n) (h : y j = y k) (_hk : k ≤ j) : j ≤ e := by
  rcases Nat.lt_or_ge e j with h1 | h1
  · have := a.above hm h1 hj; omega
  · exact h1
theorem Sing.last (h : Sing y n k) (hk : k < n) : LastOf y n k k :=
  ⟨Nat.le_refl _, hk, fun j h1 h2 => by rw [show j = k by omega], h.2⟩
/-- Another place with the byte of a lone place: none. -/
theorem Sing.alone (h : Sing y n k) (hm : ∀ i j, i ≤ j → j < n → y i ≤ y j) (hk : k < n) (hj : j < n) (e : y j = y k) : j = k := by
  rcases Nat.lt_trichotomy j k with h1 | h1 | h1
  · rcases h.1 with h2 | h2
    · omega
    · have := hm j (k - 1) (by omega) (by omega)
      have := hm (k - 1) k (by omega) hk
      omega
  · exact h1
  · rcases h.2 with h2 | h2
    · omega
    · have := hm (k + 1) j (by omega) hj
      omega
/-- A start that is not alone has a fellow. -/
theorem LastOf.fellow (a : LastOf y n k e) (hs : k = 0 ∨ y (k - 1) < y k) (hn : ¬ Sing y n k) : k < e := by
  rcases Nat.lt_or_ge k e with h | h
  · exact h
  · have := a.le
    obtain rfl : e = k := by omega
    exact absurd ⟨hs, a.stop⟩ hn
end

section
variable {s : List UInt8} {n : Nat} {p : Nat → Nat} {I S : Nat → Int}

/-- The byte at a place. -/
def byt (s : List UInt8) (p : Nat → Nat) (k : Nat) : Nat := (s.getD (p k) 0).toNat

theorem drop_lt {s : List UInt8} {x z : Nat} (hx : x < s.length) (hz : z < s.length) (h : (s.getD x 0).toNat < (s.getD z 0).toNat) : s.drop x < s.drop z := by
  rw [List.drop_eq_getElem_cons hx, List.drop_eq_getElem_cons hz, List.cons_lt_cons_iff]
  left
  simpa [List.getD_eq_getElem?_getD, hx, hz, UInt8.lt_iff_toNat_lt] using h
theorem take_one {s : List UInt8} {x z : Nat} (hx : x < s.length) (hz : z < s.length) (h : (s.getD x 0).toNat = (s.getD z 0).toNat) : (s.drop x).take 1 = (s.drop z).take 1 := by
  have h1 : ∀ u, (hu : u < s.length) → (s.drop u).take 1 = [s[u]] := fun u hu => by rw [List.drop_eq_getElem_cons hu]; rfl
  have : s[x] = s[z] := by
    apply UInt8.toNat.inj
    simpa [List.getD_eq_getElem?_getD, hx, hz] using h
  rw [h1 x hx, h1 z hz, this]
theorem drop_last_lt {s : List UInt8} {x z : Nat} (hx : x + 1 = s.length) (hz : z + 1 < s.length) (h : (s.getD x 0).toNat = (s.getD z 0).toNat) : s.drop x < s.drop z := by
  have h1 := take_one (by omega) (by omega) h
  rw [← List.take_append_drop 1 (s.drop x), ← List.take_append_drop 1 (s.drop z), h1, List.drop_drop, List.drop_drop]
  apply List.append_left_lt
  rw [List.drop_eq_nil_of_le (by omega), List.drop_eq_getElem_cons hz]
  exact List.nil_lt_cons _ _

/-- Behind the first loop of initGroups. -/
structure Ini (s : List UInt8) (n : Nat) (S I : Nat → Int) (p : Nat → Nat) : Prop where
  pm : Pm n p
  mono : ∀ i j, i ≤ j → j < n → byt s p i ≤ byt s p j
  num : ∀ k, k < n → ∃ e, LastOf (byt s p) n k e ∧ I (p k) = e
  row : ∀ k, k < n → S k = if Sing (byt s p) n k then -1 else (p k : Int)

theorem Ini.gp (a : Ini s n S I p) : Gp n I p := by
  refine ⟨fun k hk => ?_, fun j k hjk hk hle => ?_⟩
  · obtain ⟨e, h1, h2⟩ := a.num k hk
    have := h1.le; have := h1.lt
    omega
  · obtain ⟨e, h1, h2⟩ := a.num j (by omega)
    obtain ⟨e', h1', h2'⟩ := a.num k hk
    have := h1'.uniq (h1.up hjk (by omega))
    omega
/-- Numbers in order: bytes in order. -/
theorem Ini.lt (a : Ini s n S I p) {j k : Nat} (hj : j < n) (hk : k < n) (h : I (p j) < I (p k)) : byt s p j < byt s p k := by
  obtain ⟨e, h1, h2⟩ := a.num j hj
  obtain ⟨e', h1', h2'⟩ := a.num k hk
  refine h1.above a.mono ?_ hk
  rcases Nat.lt_or_ge e k with h3 | h3
  · exact h3
  · exfalso
    rcases Nat.le_total j k with h4 | h4
    · have := h1'.uniq (h1.up h4 h3); omega
    · rcases Nat.lt_or_ge e' j with h5 | h5
      · have := h1.le; omega
      · have := h1.uniq (h1'.up h4 h5); omega
theorem Ini.eq (a : Ini s n S I p) {j k : Nat} (hj : j < n) (hk : k < n) (h : I (p j) = I (p k)) : byt s p j = byt s p k := by
  obtain ⟨e, h1, h2⟩ := a.num j hj
  obtain ⟨e', h1', h2'⟩ := a.num k hk
  obtain rfl : e = e' := by omega
  rw [← h1.same e h1.le (Nat.le_refl _), ← h1'.same e h1'.le (Nat.le_refl _)]
theorem Ini.of_eq (a : Ini s n S I p) {j k : Nat} (hj : j < n) (hk : k < n) (h : byt s p j = byt s p k) : I (p j) = I (p k) := by
  rcases Nat.lt_trichotomy 0 (I (p k) - I (p j)).toNat with h1 | h1 | h1
  · have := a.lt hj hk (by omega); omega
  · rcases Int.lt_or_le (I (p k)) (I (p j)) with h2 | h2
    · have := a.lt hk hj h2; omega
    · omega
  · omega

/-- The last suffix is alone already. -/
theorem Ini.hd1 (a : Ini s n S I p) (hs : s.length = n) (hn : 0 < n) {L : Nat} (hL : L < n) (hpL : p L = n - 1) (hsl : Sing (byt s p) n L) : Hd s n S I p 1 := by
  have hlast : ∀ k, k < n → ¬ Sing (byt s p) n k → p k + 1 < n := fun k hk h1 => by
    have := a.pm.lt k hk
    rcases Nat.lt_or_ge (p k + 1) n with h2 | h2
    · exact h2
    · have : k = L := a.pm.inj _ _ hk hL (by omega)
      subst this
      exact absurd hsl h1
  refine ⟨a.pm, a.gp, ⟨fun x z hx hz h => ?_, fun x z hx hz hne h => ?_⟩, ?_, Or.inl (by omega)⟩
  · obtain ⟨j, hj, rfl⟩ := a.pm.sur x hx
    obtain ⟨k, hk, rfl⟩ := a.pm.sur z hz
    exact drop_lt (by omega) (by omega) (a.lt hj hk h)
  · obtain ⟨j, hj, rfl⟩ := a.pm.sur x hx
    obtain ⟨k, hk, rfl⟩ := a.pm.sur z hz
    have hb := a.eq hj hk h
    refine ⟨hlast j hj (fun h1 => ?_), take_one (by omega) (by omega) hb⟩
    have := h1.alone a.mono hj hk hb.symm
    subst this
    exact hne rfl
  · have go : ∀ m x, x + m = n → (x = 0 ∨ x = n ∨ byt s p (x - 1) < byt s p x) → Pth n S I p 1 x n := by
      intro m
      induction m using Nat.strongRecOn with
      | _ m ih =>
      intro x hx hst
      by_cases h0 : m = 0
      · rw [show x = n by omega]; exact .refl _
      · have hst' : x = 0 ∨ byt s p (x - 1) < byt s p x := by rcases hst with h | h | h; exact Or.inl h; omega; exact Or.inr h
        obtain ⟨e, h1, h2⟩ := a.num x (by omega)
        have hle := h1.le; have hlt := h1.lt
        have nxt : e + 1 = 0 ∨ e + 1 = n ∨ byt s p (e + 1 - 1) < byt s p (e + 1) := by
          rcases h1.stop with h3 | h3
          · exact Or.inr (Or.inl h3)
          · exact Or.inr (Or.inr h3)
        refine .cons _ _ _ ?_ (ih (n - (e + 1)) (by omega) (e + 1) (by omega) nxt)
        by_cases hsx : Sing (byt s p) n x
        · obtain rfl : e = x := h1.uniq (hsx.last (by omega))
          refine .run e 1 ?_ (by omega) (by omega) (fun k h3 h4 => ?_)
          · rw [a.row e (by omega), if_pos hsx]; rfl
          · rw [show k = e by omega]; exact h2
        · have hxe := h1.fellow hst' hsx
          refine .grp x e hle hlt (fun k h3 h4 => ?_)
          have hns : ¬ Sing (byt s p) n k := fun h5 => by
            have e1 := h5.alone a.mono (by omega) (show x < n by omega) ((h1.same k h3 h4).symm)
            have e2 := h5.alone a.mono (by omega) hlt ((h1.same e hle (Nat.le_refl _)).trans (h1.same k h3 h4).symm)
            omega
          obtain ⟨e', g1, g2⟩ := a.num k (by omega)
          refine ⟨by rw [a.row k (by omega), if_neg hns], ?_, hlast k (by omega) hns⟩
          have := g1.uniq (h1.up h3 h4)
          omega
    exact go n 0 (by omega) (Or.inl rfl)

/-- The permutation with two places exchanged. -/
def swp2 (p : Nat → Nat) (a b : Nat) : Nat → Nat := fun k => if k = a then p b else if k = b then p a else p k

theorem swp2_pm (a : Pm n p) {i j : Nat} (hi : i < n) (hj : j < n) : Pm n (swp2 p i j) := by
  refine ⟨fun k hk => ?_, fun k k' hk hk' h => ?_, fun x hx => ?_⟩
  · unfold swp2
    split
    · exact a.lt j hj
    · split
      · exact a.lt i hi
      · exact a.lt k hk
  · have e : ∀ k, k < n → ∃ k2, k2 < n ∧ swp2 p i j k = p k2 ∧ (k = i ∧ k2 = j ∨ k ≠ i ∧ k = j ∧ k2 = i ∨ k ≠ i ∧ k ≠ j ∧ k2 = k) := fun k hk => by
      unfold swp2
      by_cases h1 : k = i
      · exact ⟨j, hj, by rw [if_pos h1], Or.inl ⟨h1, rfl⟩⟩
      · by_cases h2 : k = j
        · exact ⟨i, hi, by rw [if_neg h1, if_pos h2], Or.inr (Or.inl ⟨h1, h2, rfl⟩)⟩
        · exact ⟨k, hk, by rw [if_neg h1, if_neg h2], Or.inr (Or.inr ⟨h1, h2, rfl⟩)⟩
    obtain ⟨a1, b1, c1, d1⟩ := e k hk
    obtain ⟨a2, b2, c2, d2⟩ := e k' hk'
    have := a.inj _ _ b1 b2 (by rw [← c1, ← c2, h])
    omega
  · obtain ⟨k, hk, rfl⟩ := a.sur x hx
    by_cases h1 : k = i
    · subst h1
      refine ⟨j, hj, ?_⟩
      unfold swp2
      split
      · rename_i h2; rw [h2]
      · rw [if_pos rfl]
    · by_cases h2 : k = j
      · subst h2
        exact ⟨i, hi, by unfold swp2; rw [if_pos rfl]⟩
      · exact ⟨k, hk, by unfold swp2; rw [if_neg h1, if_neg h2]⟩

/-- The last suffix is set apart, ahead of its group. -/
theorem Ini.hd2 (a : Ini s n S I p) (hs : s.length = n) (hn : 0 < n) {L i0 : Nat} (hL : L < n) (hpL : p L = n - 1) (hsl : ¬ Sing (byt s p) n L) (hi0 : i0 ≤ L) (hby : byt s p i0 = byt s p L)
    (hfst : ∀ j, j < i0 → byt s p j ≠ byt s p L) : Hd s n (upd (upd S L (p i0 : Int)) i0 (-1)) (upd I (n - 1 : Nat) i0) (swp2 p i0 L) 1 := by
  obtain ⟨e, hl, he⟩ := a.num i0 (by omega)
  have hLe : L ≤ e := hl.of_eq a.mono hL hby.symm hi0
  have hle := hl.le; have hlt := hl.lt
  have hst : i0 = 0 ∨ byt s p (i0 - 1) < byt s p i0 := by
    rcases Nat.eq_zero_or_pos i0 with h | h
    · exact Or.inl h
    · have h1 := hfst (i0 - 1) (by omega)
      have h2 := a.mono (i0 - 1) i0 (by omega) (by omega)
      exact Or.inr (by omega)
  have hns0 : ¬ Sing (byt s p) n i0 := fun h => by
    have := h.alone a.mono (by omega) hL hby.symm
    subst this
    exact hsl h
  have hie : i0 < e := hl.fellow hst hns0
  -- the new numbers by place
  have pL : p L = n - 1 := hpL
  have vne : ∀ k, k < n → k ≠ L → p k ≠ n - 1 := fun k hk h e => h (a.pm.inj _ _ hk hL (by omega))
  have q0 : swp2 p i0 L i0 = n - 1 := by unfold swp2; rw [if_pos rfl]; exact hpL
  have qo : ∀ k, k ≠ i0 → k ≠ L → swp2 p i0 L k = p k := fun k h1 h2 => by unfold swp2; rw [if_neg h1, if_neg h2]
  have qL : L ≠ i0 → swp2 p i0 L L = p i0 := fun h => by unfold swp2; rw [if_neg h, if_pos rfl]
  have num0 : upd I (n - 1 : Nat) i0 (swp2 p i0 L i0) = i0 := by rw [q0]; unfold upd; rw [if_pos rfl]
  have numI : ∀ k, i0 < k → k ≤ e → upd I (n - 1 : Nat) i0 (swp2 p i0 L k) = e ∧ swp2 p i0 L k ≠ n - 1 := fun k h1 h2 => by
    by_cases h3 : k = L
    · subst h3
      have h4 := vne i0 (by omega) (by omega)
      rw [qL (by omega)]
      refine ⟨?_, h4⟩
      unfold upd; rw [if_neg h4]; exact he
    · have h4 := vne k (by omega) h3
      rw [qo k (by omega) h3]
      refine ⟨?_, h4⟩
      unfold upd; rw [if_neg h4]
      obtain ⟨e', g1, g2⟩ := a.num k (by omega)
      have := g1.uniq (hl.up (by omega) h2)
      omega
  have out : ∀ k, k < n → ¬ (i0 ≤ k ∧ k ≤ e) → upd I (n - 1 : Nat) i0 (swp2 p i0 L k) = I (p k) ∧ swp2 p i0 L k = p k := fun k hk h => by
    rw [qo k (by omega) (by omega)]
    refine ⟨?_, rfl⟩
    unfold upd; rw [if_neg (vne k hk (by omega))]
  have low : ∀ k, k < i0 → I (p k) < i0 := fun k hk => by
    obtain ⟨e', g1, g2⟩ := a.num k (by omega)
    rcases Nat.lt_or_ge e' i0 with h1 | h1
    · omega
    · exact absurd ((g1.same i0 (by omega) h1).symm.trans hby) (hfst k hk)
  have high : ∀ k, k < n → e < k → (k : Int) ≤ I (p k) := fun k hk h => by
    obtain ⟨e', g1, g2⟩ := a.num k hk
    have := g1.le; omega
  have hpm := swp2_pm a.pm (show i0 < n by omega) hL
  have cs : ∀ k, k < i0 ∨ k = i0 ∨ (i0 < k ∧ k ≤ e) ∨ e < k := fun k => by omega
  -- the byte of what stands at a place now
  have byq : ∀ k, k < n → (s.getD (swp2 p i0 L k) 0).toNat = byt s p k := fun k hk => by
    by_cases h1 : k = i0
    · subst h1
      rw [q0, ← hpL]; exact hby.symm
    · by_cases h2 : k = L
      · subst h2
        rw [qL h1]; exact hby
      · rw [qo k h1 h2]; rfl
  refine ⟨hpm, ⟨fun k hk => ?_, fun j k hjk hk h => ?_⟩, ⟨fun x z hx hz h => ?_, fun x z hx hz hne h => ?_⟩, ?_, Or.inl (by omega)⟩
  · rcases cs k with h1 | rfl | h1 | h1
    · rw [(out k hk (by omega)).1]; exact a.gp.ge k hk
    · rw [num0]; omega
    · rw [(numI k h1.1 h1.2).1]; omega
    · rw [(out k hk (by omega)).1]; exact a.gp.ge k hk
  · rcases cs j with h1 | rfl | h1 | h1
    · rw [(out j (by omega) (by omega)).1] at h ⊢
      have := low j h1
      rw [(out k hk (by omega)).1]
      exact a.gp.eq j k hjk hk h
    · rw [num0] at h ⊢
      rw [show k = j by omega, num0]
    · rw [(numI j h1.1 h1.2).1] at h ⊢
      rw [(numI k (by omega) (by omega)).1]
    · rw [(out j (by omega) (by omega)).1] at h ⊢
      rw [(out k hk (by omega)).1]
      exact a.gp.eq j k hjk hk h
  · obtain ⟨j, hj, rfl⟩ := hpm.sur x hx
    obtain ⟨k, hk, rfl⟩ := hpm.sur z hz
    have hbj := byq j hj
    have hbk := byq k hk
    have blt : byt s p j < byt s p k → s.drop (swp2 p i0 L j) < s.drop (swp2 p i0 L k) := fun h1 => drop_lt (by omega) (by omega) (by omega)
    rcases cs j with h1 | rfl | h1 | h1 <;> rcases cs k with h2 | rfl | h2 | h2
    · rw [(out j hj (by omega)).1, (out k hk (by omega)).1] at h; exact blt (a.lt hj hk h)
    · rw [(out j hj (by omega)).1, num0] at h
      exact blt (a.lt hj hk (by rw [he]; omega))
    · rw [(out j hj (by omega)).1, (numI k h2.1 h2.2).1] at h
      have hk0 : byt s p k = byt s p i0 := hl.same k (by omega) h2.2
      have := a.lt hj (show i0 < n by omega) (by rw [he]; exact h)
      exact blt (by omega)
    · rw [(out j hj (by omega)).1, (out k hk (by omega)).1] at h; exact blt (a.lt hj hk h)
    · rw [num0, (out k hk (by omega)).1] at h
      have := low k h2; omega
    · omega
    · have hk0 : byt s p k = byt s p j := hl.same k (by omega) h2.2
      have h3 := (numI k h2.1 h2.2).2
      rw [q0] at hbj ⊢
      exact drop_last_lt (by omega) (by omega) (by omega)
    · exact blt (hl.above a.mono h2 hk)
    · rw [(numI j h1.1 h1.2).1, (out k hk (by omega)).1] at h
      have := low k h2; omega
    · rw [(numI j h1.1 h1.2).1, num0] at h; omega
    · rw [(numI j h1.1 h1.2).1, (numI k h2.1 h2.2).1] at h; omega
    · have hj0 : byt s p j = byt s p i0 := hl.same j (by omega) h1.2
      have := hl.above a.mono h2 hk
      exact blt (by omega)
    · rw [(out j hj (by omega)).1, (out k hk (by omega)).1] at h; exact blt (a.lt hj hk h)
    · rw [(out j hj (by omega)).1, num0] at h
      have := high j hj h1; omega
    · rw [(out j hj (by omega)).1, (numI k h2.1 h2.2).1] at h
      have := high j hj h1; omega
    · rw [(out j hj (by omega)).1, (out k hk (by omega)).1] at h; exact blt (a.lt hj hk h)
  · obtain ⟨j, hj, rfl⟩ := hpm.sur x hx
    obtain ⟨k, hk, rfl⟩ := hpm.sur z hz
    have hbj := byq j hj
    have hbk := byq k hk
    have fin : swp2 p i0 L j ≠ n - 1 → byt s p j = byt s p k → swp2 p i0 L j + 1 < n ∧ (s.drop (swp2 p i0 L j)).take 1 = (s.drop (swp2 p i0 L k)).take 1 := fun h1 h2 =>
      ⟨by omega, take_one (by omega) (by omega) (by omega)⟩
    rcases cs j with h1 | rfl | h1 | h1 <;> rcases cs k with h2 | rfl | h2 | h2
    · rw [(out j hj (by omega)).1, (out k hk (by omega)).1] at h
      exact fin (by rw [(out j hj (by omega)).2]; exact vne j hj (by omega)) (a.eq hj hk h)
    · rw [(out j hj (by omega)).1, num0] at h
      have := low j h1; omega
    · rw [(out j hj (by omega)).1, (numI k h2.1 h2.2).1] at h
      have := low j h1; omega
    · rw [(out j hj (by omega)).1, (out k hk (by omega)).1] at h
      exact fin (by rw [(out j hj (by omega)).2]; exact vne j hj (by omega)) (a.eq hj hk h)
    · rw [num0, (out k hk (by omega)).1] at h
      have := low k h2; omega
    · exact absurd rfl hne
    · rw [num0, (numI k h2.1 h2.2).1] at h; omega
    · rw [num0, (out k hk (by omega)).1] at h
      have := high k hk h2; omega
    · rw [(numI j h1.1 h1.2).1, (out k hk (by omega)).1] at h
      have := low k h2; omega
    · rw [(numI j h1.1 h1.2).1, num0] at h; omega
    · exact fin (numI j h1.1 h1.2).2 (by rw [hl.same j (by omega) h1.2, hl.same k (by omega) h2.2])
    · rw [(numI j h1.1 h1.2).1, (out k hk (by omega)).1] at h
      have := high k hk h2; omega
    · rw [(out j hj (by omega)).1, (out k hk (by omega)).1] at h
      exact fin (by rw [(out j hj (by omega)).2]; exact vne j hj (by omega)) (a.eq hj hk h)
    · rw [(out j hj (by omega)).1, num0] at h
      have := high j hj h1; omega
    · rw [(out j hj (by omega)).1, (numI k h2.1 h2.2).1] at h
      have := high j hj h1; omega
    · rw [(out j hj (by omega)).1, (out k hk (by omega)).1] at h
      exact fin (by rw [(out j hj (by omega)).2]; exact vne j hj (by omega)) (a.eq hj hk h)
  · have rowo : ∀ k, k ≠ i0 → k ≠ L → upd (upd S L (p i0 : Int)) i0 (-1) k = S k := fun k h1 h2 => by unfold upd; rw [if_neg h1, if_neg h2]
    have nsing : ∀ k, i0 ≤ k → k ≤ e → ¬ Sing (byt s p) n k := fun k h1 h2 h3 => by
      have e1 := h3.alone a.mono (by omega) (show i0 < n by omega) ((hl.same k h1 h2).symm)
      have e2 := h3.alone a.mono (by omega) hlt ((hl.same e hle (Nat.le_refl _)).trans (hl.same k h1 h2).symm)
      omega
    have mid : Pth n (upd (upd S L (p i0 : Int)) i0 (-1)) (upd I (n - 1 : Nat) i0) (swp2 p i0 L) 1 i0 (e + 1) := by
      refine .cons _ (i0 + 1) _ (.run i0 1 ?_ (by omega) (by omega) (fun k h3 h4 => ?_)) (.one (.grp (i0 + 1) e (by omega) hlt (fun k h3 h4 => ?_)))
      · unfold upd; rw [if_pos rfl]; rfl
      · rw [show k = i0 by omega]; exact num0
      · have h5 := numI k (by omega) h4
        have h6 := hpm.lt k (by omega)
        refine ⟨?_, h5.1, by omega⟩
        by_cases h7 : k = L
        · subst h7
          rw [qL (by omega)]
          unfold upd; rw [if_neg (by omega), if_pos rfl]
        · rw [rowo k (by omega) h7, qo k (by omega) h7, a.row k (by omega), if_neg (nsing k (by omega) h4)]
    have go : ∀ m x, x + m = n → (x = 0 ∨ x = n ∨ byt s p (x - 1) < byt s p x) → Pth n (upd (upd S L (p i0 : Int)) i0 (-1)) (upd I (n - 1 : Nat) i0) (swp2 p i0 L) 1 x n := by
      intro m
      induction m using Nat.strongRecOn with
      | _ m ih =>
      intro x hx hst2
      by_cases h0 : m = 0
      · rw [show x = n by omega]; exact .refl _
      · have hst' : x = 0 ∨ byt s p (x - 1) < byt s p x := by rcases hst2 with h | h | h; exact Or.inl h; omega; exact Or.inr h
        obtain ⟨e2, h1, h2⟩ := a.num x (by omega)
        have hle2 := h1.le; have hlt2 := h1.lt
        have nxt : e2 + 1 = 0 ∨ e2 + 1 = n ∨ byt s p (e2 + 1 - 1) < byt s p (e2 + 1) := by
          rcases h1.stop with h3 | h3
          · exact Or.inr (Or.inl h3)
          · exact Or.inr (Or.inr h3)
        have rest := ih (n - (e2 + 1)) (by omega) (e2 + 1) (by omega) nxt
        by_cases hx0 : x = i0
        · subst hx0
          obtain rfl : e2 = e := h1.uniq hl
          exact mid.trans rest
        · have hout : ∀ k, x ≤ k → k ≤ e2 → ¬ (i0 ≤ k ∧ k ≤ e) := fun k h3 h4 h5 => by
            have b1 : byt s p k = byt s p x := h1.same k h3 h4
            have b2 : byt s p k = byt s p i0 := hl.same k h5.1 h5.2
            rcases Nat.lt_trichotomy x i0 with h6 | h6 | h6
            · exact hfst x h6 (by omega)
            · exact hx0 h6
            · rcases hst' with h7 | h7
              · omega
              · have := a.mono i0 (x - 1) (by omega) (by omega); omega
          refine .cons _ _ _ ?_ rest
          by_cases hsx : Sing (byt s p) n x
          · obtain rfl : e2 = x := h1.uniq (hsx.last (by omega))
            have ho := hout e2 (Nat.le_refl _) (Nat.le_refl _)
            refine .run e2 1 ?_ (by omega) (by omega) (fun k h3 h4 => ?_)
            · rw [rowo e2 hx0 (by omega), a.row e2 (by omega), if_pos hsx]; rfl
            · rw [show k = e2 by omega, (out e2 (by omega) ho).1]; exact h2
          · have hxe := h1.fellow hst' hsx
            refine .grp x e2 hle2 hlt2 (fun k h3 h4 => ?_)
            have ho := hout k h3 h4
            have hns : ¬ Sing (byt s p) n k := fun h5 => by
              have e1 := h5.alone a.mono (by omega) (show x < n by omega) ((h1.same k h3 h4).symm)
              have e2' := h5.alone a.mono (by omega) hlt2 ((h1.same e2 hle2 (Nat.le_refl _)).trans (h1.same k h3 h4).symm)
              omega
            obtain ⟨e', g1, g2⟩ := a.num k (by omega)
            rw [(out k (by omega) ho).1, (out k (by omega) ho).2]
            refine ⟨by rw [rowo k (by omega) (by omega), a.row k (by omega), if_neg hns], ?_, ?_⟩
            · have := g1.uniq (h1.up h3 h4)
              omega
            · have := vne k (by omega) (by omega)
              have := a.pm.lt k (by omega)
              omega
    exact go n 0 (by omega) (Or.inl rfl)

theorem upd_ne {S : Nat → Int} {i k : Nat} {v : Int} (h : k ≠ i) : upd S i v k = S k := by unfold upd; rw [if_neg h]
theorem upd_at (S : Nat → Int) (i : Nat) (v : Int) : upd S i v i = v := by unfold upd; rw [if_pos rfl]

/-- In the middle of the first loop: the places from q on are done; e is the last place of the group at hand. -/
structure Bk (s : List UInt8) (n : Nat) (p : Nat → Nat) (q e : Nat) (S I : Nat → Int) : Prop where
  elt : e < n
  qe : q ≤ e ∨ (q = n ∧ e + 1 = n)
  eq : ∀ k, q ≤ k → k ≤ e → byt s p k = byt s p e
  stop : e + 1 = n ∨ byt s p e < byt s p (e + 1)
  num : ∀ k, q ≤ k → k < n → ∃ e', LastOf (byt s p) n k e' ∧ I (p k) = e'
  row : ∀ k, k < n → S k = if Sing (byt s p) n k ∧ (q < k ∨ q = 0) then -1 else (p k : Int)

theorem Bk.start (hn : 0 < n) (hS : ∀ k, k < n → S k = p k) : Bk s n p n (n - 1) S I :=
  ⟨by omega, Or.inr ⟨rfl, by omega⟩, fun k h1 h2 => by omega, Or.inl (by omega), fun k h1 h2 => by omega, fun k hk => by rw [if_neg (by omega)]; exact hS k hk⟩

theorem Bk.fin {e : Nat} (b : Bk s n p 0 e S I) (pm : Pm n p) (mono : ∀ i j, i ≤ j → j < n → byt s p i ≤ byt s p j) : Ini s n S I p :=
  ⟨pm, mono, fun k hk => b.num k (Nat.zero_le _) hk, fun k hk => by
    rw [b.row k hk]
    by_cases h : Sing (byt s p) n k
    · rw [if_pos ⟨h, Or.inr rfl⟩, if_pos h]
    · rw [if_neg (fun h1 => h h1.1), if_neg h]⟩

/-- The number of place q, once its group is known. -/
theorem Bk.numq {q e : Nat} (pm : Pm n p) (hq : q < n) (hel : e < n) (hqe : q ≤ e) (heq : ∀ k, q ≤ k → k ≤ e → byt s p k = byt s p e) (hst : e + 1 = n ∨ byt s p e < byt s p (e + 1))
    (hnum : ∀ k, q + 1 ≤ k → k < n → ∃ e', LastOf (byt s p) n k e' ∧ I (p k) = e') :
    ∀ k, q ≤ k → k < n → ∃ e', LastOf (byt s p) n k e' ∧ upd I (p q) e (p k) = e' := fun k h1 h2 => by
  by_cases h3 : k = q
  · subst h3
    refine ⟨e, ⟨hqe, hel, fun j h4 h5 => by rw [heq j h4 h5, heq k (Nat.le_refl _) hqe], hst⟩, ?_⟩
    unfold upd; rw [if_pos rfl]
  · obtain ⟨e', g1, g2⟩ := hnum k (by omega) h2
    refine ⟨e', g1, ?_⟩
    unfold upd
    rw [if_neg (fun h4 => h3 (pm.inj _ _ h2 hq h4))]
    exact g2

theorem Bk.new {q e : Nat} (b : Bk s n p (q + 1) e S I) (pm : Pm n p) (hq : q < n) (hlt : byt s p q < byt s p e) (mono : ∀ i j, i ≤ j → j < n → byt s p i ≤ byt s p j) :
    Bk s n p q q (if q = 0 then upd (if e = q + 1 then upd S (q + 1) (-1) else S) 0 (-1) else (if e = q + 1 then upd S (q + 1) (-1) else S)) (upd I (p q) q) := by
  have hqe := b.qe
  have he := b.elt
  have hne : q + 1 ≤ e := by
    rcases hqe with h | h
    · exact h
    · have := mono e q (by omega) hq; omega
  have hq1 : byt s p q < byt s p (q + 1) := by rw [b.eq (q + 1) (Nat.le_refl _) (by omega)]; exact hlt
  refine ⟨hq, Or.inl (Nat.le_refl _), fun k h1 h2 => by rw [show k = q by omega], Or.inr hq1, Bk.numq pm hq hq (Nat.le_refl _) (fun k h1 h2 => by rw [show k = q by omega]) (Or.inr hq1) b.num, fun k hk => ?_⟩
  have hs1 : ∀ k, k < n → (if e = q + 1 then upd S (q + 1) (-1) else S) k = if Sing (byt s p) n k ∧ (q < k) then -1 else (p k : Int) := fun k hk => by
    by_cases h1 : k = q + 1
    · subst h1
      by_cases h2 : e = q + 1
      · rw [if_pos h2]
        have : Sing (byt s p) n (q + 1) := ⟨Or.inr hq1, by rw [← h2]; exact b.stop⟩
        unfold upd
        rw [if_pos rfl, if_pos ⟨this, by omega⟩]
      · rw [if_neg h2, b.row _ hk, if_neg (by omega)]
        have : ¬ Sing (byt s p) n (q + 1) := fun h3 => by
          have e1 := b.eq (q + 1) (Nat.le_refl _) (by omega)
          have := h3.alone mono hk he e1.symm
          omega
        rw [if_neg (fun h4 => this h4.1)]
    · have : (if e = q + 1 then upd S (q + 1) (-1) else S) k = S k := by
        split
        · unfold upd; rw [if_neg h1]
        · rfl
      rw [this, b.row k hk]
      by_cases h3 : Sing (byt s p) n k
      · by_cases h4 : q < k
        · rw [if_pos ⟨h3, Or.inl (by omega)⟩, if_pos ⟨h3, h4⟩]
        · rw [if_neg (fun h5 => by omega), if_neg (fun h5 => h4 h5.2)]
      · rw [if_neg (fun h5 => h3 h5.1), if_neg (fun h5 => h3 h5.1)]
  by_cases h0 : q = 0
  · subst h0
    rw [if_pos rfl]
    by_cases h1 : k = 0
    · subst h1
      have : Sing (byt s p) n 0 := ⟨Or.inl rfl, Or.inr hq1⟩
      unfold upd
      rw [if_pos rfl, if_pos ⟨this, Or.inr rfl⟩]
    · have h2 : upd (if e = 0 + 1 then upd S (0 + 1) (-1) else S) 0 (-1) k = (if e = 0 + 1 then upd S (0 + 1) (-1) else S) k := upd_ne h1
      rw [h2, hs1 k hk]
      by_cases h3 : Sing (byt s p) n k
      · rw [if_pos ⟨h3, by omega⟩, if_pos ⟨h3, Or.inr rfl⟩]
      · rw [if_neg (fun h5 => h3 h5.1), if_neg (fun h5 => h3 h5.1)]
  · rw [if_neg h0, hs1 k hk]
    by_cases h3 : Sing (byt s p) n k ∧ q < k
    · rw [if_pos h3, if_pos ⟨h3.1, Or.inl h3.2⟩]
    · rw [if_neg h3, if_neg (fun h5 => h3 ⟨h5.1, by omega⟩)]

theorem Bk.old {q e : Nat} (b : Bk s n p (q + 1) e S I) (pm : Pm n p) (hq : q < n) (hlt : ¬ byt s p q < byt s p e) (mono : ∀ i j, i ≤ j → j < n → byt s p i ≤ byt s p j) :
    Bk s n p q e (if e = 0 then upd S 0 (-1) else S) (upd I (p q) e) := by
  have hqe := b.qe
  have he := b.elt
  have hqe2 : q ≤ e := by rcases hqe with h | h; omega; omega
  have hbq : byt s p q = byt s p e := by have := mono q e (by omega) he; omega
  have heq : ∀ k, q ≤ k → k ≤ e → byt s p k = byt s p e := fun k h1 h2 => by
    by_cases h3 : k = q
    · rw [h3]; exact hbq
    · exact b.eq k (by omega) h2
  refine ⟨he, Or.inl hqe2, heq, b.stop, Bk.numq pm hq he (by omega) heq b.stop b.num, fun k hk => ?_⟩
  have hns : ∀ k, k < n → k = q + 1 ∨ k = 0 → Sing (byt s p) n k → k = 0 ∧ (q = 0 → e = 0) := fun k hk h1 h2 => by
    rcases h1 with h1 | h1
    · subst h1
      rcases Nat.lt_or_ge e (q + 1) with h3 | h3
      · exfalso
        rcases hqe with h4 | h4
        · omega
        · omega
      · have e1 := heq (q + 1) (by omega) h3
        have := h2.alone mono hk hq (hbq.trans e1.symm)
        omega
    · subst h1
      refine ⟨rfl, fun h3 => ?_⟩
      subst h3
      exact (h2.alone mono hk he hbq.symm)
  by_cases h0 : e = 0
  · rw [if_pos h0]
    subst h0
    obtain rfl : q = 0 := by omega
    by_cases h1 : k = 0
    · subst h1
      have : Sing (byt s p) n 0 := ⟨Or.inl rfl, b.stop⟩
      unfold upd
      rw [if_pos rfl, if_pos ⟨this, Or.inr rfl⟩]
    · have h2 : upd S 0 (-1) k = S k := by unfold upd; rw [if_neg h1]
      rw [h2, b.row k hk]
      by_cases h3 : Sing (byt s p) n k
      · by_cases h4 : 1 < k
        · rw [if_pos ⟨h3, Or.inl (by omega)⟩, if_pos ⟨h3, Or.inr rfl⟩]
        · have := hns k hk (Or.inl (by omega)) h3
          omega
      · rw [if_neg (fun h5 => h3 h5.1), if_neg (fun h5 => h3 h5.1)]
  · rw [if_neg h0, b.row k hk]
    by_cases h3 : Sing (byt s p) n k
    · by_cases h4 : q + 1 < k
      · rw [if_pos ⟨h3, Or.inl h4⟩, if_pos ⟨h3, Or.inl (by omega)⟩]
      · rw [if_neg (fun h5 => by omega)]
        by_cases h6 : k = q + 1
        · have := hns k hk (Or.inl h6) h3
          omega
        · rw [if_neg]
          rintro ⟨_, h7 | h7⟩
          · omega
          · have := hns k hk (Or.inr (by omega)) h3
            exact h0 (this.2 h7)
    · rw [if_neg (fun h5 => h3 h5.1), if_neg (fun h5 => h3 h5.1)]
end
end Go.Proofs.Ytaihafoopoaahaa
