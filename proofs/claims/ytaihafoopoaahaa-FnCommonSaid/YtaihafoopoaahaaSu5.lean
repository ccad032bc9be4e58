/- Plain law of one group: sorted by what follows, and numbered anew. No condition. -/
import Derived.Test.YtaihafoopoaahaaSu4
namespace Go.Proofs.Ytaihafoopoaahaa

theorem perm_maps {f g : Nat → Nat} {m : Nat} (hp : ((List.range' 0 m).map f).Perm ((List.range' 0 m).map g)) (hi : ∀ i j, i < m → j < m → g i = g j → i = j) :
    (∀ i, i < m → ∃ j, j < m ∧ f i = g j) ∧ (∀ j, j < m → ∃ i, i < m ∧ f i = g j) ∧ ∀ i j, i < m → j < m → f i = f j → i = j := by
  refine ⟨fun i h => ?_, fun j h => ?_, fun i j h1 h2 h3 => ?_⟩
  · have h1 : f i ∈ (List.range' 0 m).map g := hp.mem_iff.1 (List.mem_map.2 ⟨i, by simp; omega, rfl⟩)
    obtain ⟨j, h2, h3⟩ := List.mem_map.1 h1
    exact ⟨j, by simp at h2; omega, h3.symm⟩
  · have h1 : g j ∈ (List.range' 0 m).map f := hp.mem_iff.2 (List.mem_map.2 ⟨j, by simp; omega, rfl⟩)
    obtain ⟨i, h2, h3⟩ := List.mem_map.1 h1
    exact ⟨i, by simp at h2; omega, h3⟩
  · have hn : ((List.range' 0 m).map f).Nodup := by
      rw [hp.nodup_iff]
      refine List.pairwise_map.2 ?_
      rw [List.pairwise_iff_getElem]
      intro a b ha hb hab e
      simp at ha hb e
      have := hi _ _ ha hb e
      omega
    have := List.pairwise_map.1 hn
    rw [List.pairwise_iff_getElem] at this
    rcases Nat.lt_trichotomy i j with h | h | h
    · have := this i j (by simpa using h1) (by simpa using h2) h
      simp at this
      exact absurd h3 this
    · exact h
    · have := this j i (by simpa using h2) (by simpa using h1) h
      simp at this
      exact absurd h3.symm this

section
variable {K : Nat → Int} {sz a b a' b' : Nat}
theorem Grp.uniq (g : Grp K sz a b) (g' : Grp K sz a' b') {i : Nat} (h1 : a ≤ i) (h2 : i < b) (h3 : a' ≤ i) (h4 : i < b') (hb : b ≤ sz) (hb' : b' ≤ sz) : b = b' := by
  rcases Nat.lt_trichotomy b b' with h | h | h
  · rcases g.2.1 with e | e
    · omega
    · exact absurd e (g'.2.2 b (by omega) h)
  · exact h
  · rcases g'.2.1 with e | e
    · omega
    · exact absurd e (g.2.2 b' (by omega) h)
theorem Grp.same (g : Grp K sz a b) (hs : ∀ i j, i ≤ j → j < sz → K i ≤ K j) (hb : b ≤ sz) : ∀ r, a + r < b → K (a + r) = K a
  | 0, _ => rfl
  | r + 1, h => by
    have h1 := Grp.same g hs hb r (by omega)
    have h2 := g.2.2 (a + (r + 1)) (by omega) h
    rw [show a + (r + 1) - 1 = a + r by omega] at h2
    have h3 := hs (a + r) (a + (r + 1)) (by omega) (by omega)
    omega
theorem Grp.alike (g : Grp K sz a b) (hs : ∀ i j, i ≤ j → j < sz → K i ≤ K j) (hb : b ≤ sz) {i j : Nat} (h1 : a ≤ i) (h2 : i < b) (h3 : a ≤ j) (h4 : j < b) : K i = K j := by
  have e1 := g.same hs hb (i - a) (by omega)
  have e2 := g.same hs hb (j - a) (by omega)
  rw [show a + (i - a) = i by omega] at e1
  rw [show a + (j - a) = j by omega] at e2
  omega
theorem Grp.across (g : Grp K sz a b) (g' : Grp K sz a' b') (hs : ∀ i j, i ≤ j → j < sz → K i ≤ K j) (hb : b ≤ sz) (hb' : b' ≤ sz) {i j : Nat} (_h1 : a ≤ i) (h2 : i < b) (h3 : a' ≤ j) (h4 : j < b') (hlt : b < b') : K i < K j := by
  rcases g.2.1 with e | e
  · omega
  · have h5 : b ≤ a' := by
      rcases Nat.lt_or_ge a' b with h | h
      · exact absurd e (g'.2.2 b h hlt)
      · exact h
    have h6 := hs i (b - 1) (by omega) (by omega)
    have h7 := hs b j (by omega) (by omega)
    omega
theorem Grp.start (g : Grp K sz a b) {q : Nat} (hq : q = 0 ∨ K (q - 1) < K q) (h1 : a ≤ q) (h2 : q < b) : a = q := by
  rcases Nat.lt_or_ge a q with h | h
  · rcases hq with e | e
    · omega
    · exact absurd e (g.2.2 q h h2)
  · omega
end

section
variable {n pi sz : Nat} {S S' I I' : Nat → Int} {p : Nat → Nat} {h : Nat} {s : List UInt8}

/-- The permutation with a part laid anew. -/
def pseg (p : Nat → Nat) (lo : Nat) (d : Array Nat) : Nat → Nat := fun k => if lo ≤ k ∧ k < lo + d.size then d[k - lo]! else p k

theorem Ps.split (a : Ps s n S I p h pi 0) (hsz : 1 ≤ sz) (hn : pi + sz ≤ n) (hg : ∀ k, pi ≤ k → k < pi + sz → S k = p k ∧ I (p k) = ((pi + sz : Nat) : Int) - 1 ∧ p k + h < n) (hr : Pth n S I p h (pi + sz) n)
    (d d' : Array Nat) (hd : ∀ i, i < sz → d[i]! = p (pi + i)) (hd' : d'.size = sz) (hds : d.size = sz) (hp : Sort.PermIn 0 sz d d') (hs : ∀ i j, i ≤ j → j < sz → I (d'[i]! + h) ≤ I (d'[j]! + h))
    (sp : Split (fun i => I (d'[i]! + h)) pi sz d' I (seg S pi d') sz I' S') : Ps s n S' I' (pseg p pi d') h (pi + sz) 0 := by
  obtain ⟨K, hK⟩ : ∃ K : Nat → Int, K = fun i => I (d'[i]! + h) := ⟨_, rfl⟩
  have hKv : ∀ i, K i = I (d'[i]! + h) := fun i => by rw [hK]
  rw [← hK] at sp
  have hs' : ∀ i j, i ≤ j → j < sz → K i ≤ K j := fun i j h1 h2 => by rw [hKv, hKv]; exact hs i j h1 h2
  clear hs hK
  -- the permutation
  have hpm := hp.2.2
  rw [Sort.extract_toList _ _ _ (by omega), Sort.extract_toList _ _ _ (by omega), Nat.sub_zero] at hpm
  obtain ⟨m1, m2, m3⟩ := perm_maps hpm (fun i j h1 h2 h3 => by
    rw [hd i h1, hd j h2] at h3
    have := a.pm.inj _ _ (by omega) (by omega) h3
    omega)
  have e1 : ∀ i, i < sz → ∃ j, j < sz ∧ d'[i]! = p (pi + j) := fun i hi => by
    obtain ⟨j, h1, h2⟩ := m1 i hi
    exact ⟨j, h1, h2.trans (hd j h1)⟩
  have pin : ∀ i, i < sz → pseg p pi d' (pi + i) = d'[i]! := fun i hi => by
    unfold pseg
    rw [if_pos ⟨by omega, by omega⟩, show pi + i - pi = i by omega]
  have pout : ∀ k, ¬ (pi ≤ k ∧ k < pi + sz) → pseg p pi d' k = p k := fun k hk => by
    unfold pseg
    rw [hd', if_neg hk]
  have nin : ∀ k, k < n → ¬ (pi ≤ k ∧ k < pi + sz) → ∀ i, i < sz → d'[i]! ≠ p k := fun k hk1 hk i hi e => by
    obtain ⟨j, h1, h2⟩ := e1 i hi
    have := a.pm.inj _ _ (by omega) hk1 (h2.symm.trans e)
    omega
  have iold : ∀ i, i < sz → I d'[i]! = ((pi + sz : Nat) : Int) - 1 ∧ d'[i]! + h < n ∧ d'[i]! < n := fun i hi => by
    obtain ⟨j, h1, h2⟩ := e1 i hi
    rw [h2]
    have := hg (pi + j) (by omega) (by omega)
    exact ⟨this.2.1, this.2.2, a.pm.lt _ (by omega)⟩
  have inew : ∀ i, i < sz → ∃ x y, x ≤ i ∧ i < y ∧ y ≤ sz ∧ Grp K sz x y ∧ I' d'[i]! = ((pi + y : Nat) : Int) - 1 ∧ S' (pi + i) = if y = x + 1 then -1 else (d'[i]! : Int) := fun i hi => by
    obtain ⟨x, y, h1, h2, h3, h4, h5, h6⟩ := sp.fin i hi
    rw [seg_at S pi d' (by omega)] at h6
    exact ⟨x, y, h1, h2, h3, h4, h5, h6⟩
  have iout : ∀ k, k < n → ¬ (pi ≤ k ∧ k < pi + sz) → I' (pseg p pi d' k) = I (p k) := fun k h1 h2 => by
    rw [pout k h2]
    exact sp.farI _ (nin k h1 h2)
  have sout : ∀ k, ¬ (pi ≤ k ∧ k < pi + sz) → S' k = S k := fun k hk => by
    rw [sp.farS k (by omega)]
    unfold seg
    rw [hd', if_neg hk]
  have low : ∀ k, k < pi → I (p k) < pi := a.bnd
  have high : ∀ k, k < n → pi + sz ≤ k → ((pi + sz : Nat) : Int) ≤ I (p k) := fun k h1 h2 => by
    have := (a.gp.ge k h1).1
    omega
  have cs : ∀ k, (∃ i, i < sz ∧ k = pi + i) ∨ ¬ (pi ≤ k ∧ k < pi + sz) := fun k => by
    by_cases h1 : pi ≤ k ∧ k < pi + sz
    · exact Or.inl ⟨k - pi, by omega, by omega⟩
    · exact Or.inr h1
  have hpm' : Pm n (pseg p pi d') := by
    refine ⟨fun k hk => ?_, fun j k hj hk e => ?_, fun x hx => ?_⟩
    · rcases cs k with ⟨i, hi, rfl⟩ | h1
      · rw [pin i hi]; exact (iold i hi).2.2
      · rw [pout k h1]; exact a.pm.lt k hk
    · rcases cs j with ⟨i, hi, rfl⟩ | h1 <;> rcases cs k with ⟨i', hi', rfl⟩ | h2
      · rw [pin i hi, pin i' hi'] at e
        rw [m3 i i' hi hi' e]
      · rw [pin i hi, pout k h2] at e
        exact absurd e (nin k hk h2 i hi)
      · rw [pin i' hi', pout j h1] at e
        exact absurd e.symm (nin j hj h1 i' hi')
      · rw [pout j h1, pout k h2] at e
        exact a.pm.inj _ _ hj hk e
    · obtain ⟨k, hk, e⟩ := a.pm.sur x hx
      rcases cs k with ⟨i, hi, rfl⟩ | h1
      · obtain ⟨j, h2, h3⟩ := m2 i hi
        exact ⟨pi + j, by omega, by rw [pin j h2, h3, hd i hi, e]⟩
      · exact ⟨k, hk, by rw [pout k h1, e]⟩
  -- alike within a new group
  have two : ∀ i i', i < sz → i' < sz → I' d'[i]! = I' d'[i']! → I (d'[i]! + h) = I (d'[i']! + h) := fun i i' hi hi' e => by
    obtain ⟨x, y, h1, h2, h3, h4, h5, _⟩ := inew i hi
    obtain ⟨x', y', h1', h2', h3', h4', h5', _⟩ := inew i' hi'
    obtain rfl : y = y' := by omega
    rw [← hKv, ← hKv]
    rcases Nat.le_total x x' with hx | hx
    · exact h4.alike hs' h3 h1 h2 (by omega) h2'
    · exact h4'.alike hs' h3' (by omega) h2 h1' h2'
  have dep2' : ∀ i i', i < sz → i' < sz → i ≠ i' → I' d'[i]! = I' d'[i']! → d'[i]! + 2 * h < n ∧ (s.drop d'[i]!).take (2 * h) = (s.drop d'[i']!).take (2 * h) := fun i i' hi hi' hne e => by
    have hx := iold i hi
    have hy := iold i' hi'
    have hne' : d'[i]! ≠ d'[i']! := fun e => hne (m3 i i' hi hi' e)
    have k1 := two i i' hi hi' e
    have v1 := (a.vl.dep _ _ hx.2.2 hy.2.2 hne' (by rw [hx.1, hy.1])).2
    have v2 := a.vl.dep _ _ hx.2.1 hy.2.1 (by omega) k1
    refine ⟨by omega, ?_⟩
    rw [show 2 * h = h + h by omega, List.take_add, List.take_add, List.drop_drop, List.drop_drop, v1, v2.2]
  have hpl : ∀ i, i < sz → I' (pseg p pi d' (pi + i)) = I' d'[i]! := fun i hi => by rw [pin i hi]
  -- the path through the part
  have sub : ∀ r q, q + r = sz → (q = 0 ∨ q = sz ∨ K (q - 1) < K q) → Pth n S' I' (pseg p pi d') (2 * h) (pi + q) (pi + sz) := by
    intro r
    induction r using Nat.strongRecOn with
    | _ r ih =>
    intro q hq hst
    by_cases hr0 : r = 0
    · rw [show q = sz by omega]; exact .refl _
    · have hq' : q < sz := by omega
      have hst' : q = 0 ∨ K (q - 1) < K q := by rcases hst with h1 | h1 | h1; exact Or.inl h1; omega; exact Or.inr h1
      obtain ⟨x, y, h1, h2, h3, h4, h5, h6⟩ := inew q hq'
      obtain rfl : x = q := h4.start hst' h1 h2
      have rest := ih (sz - y) (by omega) y (by omega) (by rcases h4.2.1 with h7 | h7; exact Or.inr (Or.inl h7); exact Or.inr (Or.inr h7))
      refine .cons _ _ _ ?_ rest
      by_cases hone : y = x + 1
      · rw [if_pos hone] at h6
        have := Stp.run (n := n) (S := S') (I := I') (p := pseg p pi d') (h := 2 * h) (pi + x) 1 h6 (by omega) (by omega) (fun k k1 k2 => by
          rw [show k = pi + x by omega, hpl x hq', h5]; omega)
        rw [show pi + y = pi + x + 1 by omega]
        exact this
      · have := Stp.grp (n := n) (S := S') (I := I') (p := pseg p pi d') (h := 2 * h) (pi + x) (pi + y - 1) (by omega) (by omega) (fun k k1 k2 => by
          obtain ⟨i, hi, rfl⟩ : ∃ i, i < sz ∧ k = pi + i := ⟨k - pi, by omega, by omega⟩
          obtain ⟨x', y', g1, g2, g3, g4, g5, g6⟩ := inew i hi
          obtain rfl : y = y' := h4.uniq g4 (by omega) (by omega) g1 g2 h3 g3
          have hx' : x' = x := by
            rcases Nat.lt_or_ge x x' with h7 | h7
            · rcases g4.1 with h8 | h8
              · omega
              · exact absurd h8 (h4.2.2 x' h7 (by omega))
            · exact g4.start hst' h7 (by omega)
          subst hx'
          rw [if_neg hone] at g6
          rw [hpl i hi, pin i hi]
          refine ⟨g6, by rw [g5]; omega, ?_⟩
          obtain ⟨i2, j1, j2, j3⟩ : ∃ i2, x' ≤ i2 ∧ i2 < y ∧ i2 ≠ i := by
            by_cases hii : i = x'
            · exact ⟨x' + 1, by omega, by omega, by omega⟩
            · exact ⟨x', by omega, by omega, by omega⟩
          obtain ⟨x2, y2, q1, q2, q3, q4, q5, _⟩ := inew i2 (by omega)
          obtain rfl : y = y2 := h4.uniq q4 j1 j2 q1 q2 h3 q3
          exact (dep2' i i2 hi (by omega) (Ne.symm j3) (by rw [g5, q5])).1)
        rw [show pi + y - 1 + 1 = pi + y by omega] at this
        exact this
  refine ⟨hpm', ⟨fun k hk => ?_, fun j k hjk hk hle => ?_⟩, ⟨fun x y hx hy hlt => ?_, fun x y hx hy hne he => ?_⟩, ?_, fun k k1 k2 => by omega, Nat.zero_le _, ?_, fun k hk => ?_, fun x y hx hy hne he hlt => ?_, ?_⟩
  · rcases cs k with ⟨i, hi, rfl⟩ | h1
    · obtain ⟨x, y, h1, h2, h3, h4, h5, _⟩ := inew i hi
      rw [hpl i hi, h5]
      omega
    · rw [iout k hk h1]; exact a.gp.ge k hk
  · rcases cs j with ⟨i, hi, rfl⟩ | h1
    · obtain ⟨x, y, h1, h2, h3, h4, h5, _⟩ := inew i hi
      rw [hpl i hi, h5] at hle ⊢
      obtain ⟨i', hi', rfl⟩ : ∃ i', i' < sz ∧ k = pi + i' := ⟨k - pi, by omega, by omega⟩
      obtain ⟨x', y', g1, g2, g3, g4, g5, _⟩ := inew i' hi'
      rw [hpl i' hi', g5]
      have : y = y' := h4.uniq g4 (i := i') (by omega) (by omega) g1 g2 h3 g3
      omega
    · rw [iout j (by omega) h1] at hle ⊢
      have hk' : ¬ (pi ≤ k ∧ k < pi + sz) := by
        rcases Nat.lt_or_ge j pi with h2 | h2
        · have := low j h2; omega
        · omega
      rw [iout k hk hk']
      exact a.gp.eq j k hjk hk hle
  · obtain ⟨k, hk, rfl⟩ := hpm'.sur x hx
    obtain ⟨j, hj, rfl⟩ := hpm'.sur y hy
    rcases cs k with ⟨i, hi, rfl⟩ | h1 <;> rcases cs j with ⟨i', hi', rfl⟩ | h2
    · rw [hpl i hi, hpl i' hi'] at hlt
      rw [pin i hi, pin i' hi']
      have ox := iold i hi
      have oy := iold i' hi'
      obtain ⟨x, y, h1, h2, h3, h4, h5, _⟩ := inew i hi
      obtain ⟨x', y', g1, g2, g3, g4, g5, _⟩ := inew i' hi'
      have hyy : y < y' := by omega
      have hk := h4.across g4 hs' h3 g3 h1 h2 g1 g2 hyy
      rw [hKv, hKv] at hk
      have hne : d'[i]! ≠ d'[i']! := fun e => by rw [e] at hk; omega
      have v1 := (a.vl.dep _ _ ox.2.2 oy.2.2 hne (by rw [ox.1, oy.1])).2
      have v2 := a.vl.ord _ _ ox.2.1 oy.2.1 hk
      rw [← List.take_append_drop h (s.drop d'[i]!), ← List.take_append_drop h (s.drop d'[i']!), v1, List.drop_drop, List.drop_drop]
      exact List.append_left_lt v2
    · rw [hpl i hi, iout j hj h2] at hlt
      rw [pin i hi, pout j h2]
      have ox := iold i hi
      obtain ⟨x, y, h1, h2', h3, h4, h5, _⟩ := inew i hi
      have : pi + sz ≤ j := by
        rcases Nat.lt_or_ge j pi with h6 | h6
        · have := low j h6; omega
        · omega
      have := high j hj this
      exact a.vl.ord _ _ ox.2.2 (a.pm.lt j hj) (by rw [ox.1]; omega)
    · rw [hpl i' hi', iout k hk h1] at hlt
      rw [pin i' hi', pout k h1]
      have oy := iold i' hi'
      obtain ⟨x, y, h1', h2', h3, h4, h5, _⟩ := inew i' hi'
      exact a.vl.ord _ _ (a.pm.lt k hk) oy.2.2 (by rw [oy.1]; omega)
    · rw [iout k hk h1, iout j hj h2] at hlt
      rw [pout k h1, pout j h2]
      exact a.vl.ord _ _ (a.pm.lt k hk) (a.pm.lt j hj) hlt
  · obtain ⟨k, hk, rfl⟩ := hpm'.sur x hx
    obtain ⟨j, hj, rfl⟩ := hpm'.sur y hy
    rcases cs k with ⟨i, hi, rfl⟩ | h1 <;> rcases cs j with ⟨i', hi', rfl⟩ | h2
    · rw [pin i hi, pin i' hi'] at *
      have ox := iold i hi
      have oy := iold i' hi'
      exact a.vl.dep _ _ ox.2.2 oy.2.2 hne (by rw [ox.1, oy.1])
    · rw [hpl i hi, iout j hj h2] at he
      obtain ⟨x, y, h1, h2', h3, h4, h5, _⟩ := inew i hi
      rcases Nat.lt_or_ge j pi with h6 | h6
      · have := low j h6; omega
      · have := high j hj (by omega); omega
    · rw [hpl i' hi', iout k hk h1] at he
      obtain ⟨x, y, h1', h2', h3, h4, h5, _⟩ := inew i' hi'
      rcases Nat.lt_or_ge k pi with h6 | h6
      · have := low k h6; omega
      · have := high k hk (by omega); omega
    · rw [iout k hk h1, iout j hj h2] at he
      rw [pout k h1, pout j h2] at *
      exact a.vl.dep _ _ (a.pm.lt k hk) (a.pm.lt j hj) hne he
  · have h1 : Pth n S' I' (pseg p pi d') (2 * h) 0 pi := a.left.congr (fun k _ h2 => ⟨sout k (by omega), iout k (by omega) (by omega), pout k (by omega)⟩)
    exact h1.trans (sub sz 0 (by omega) (Or.inl rfl))
  · exact hr.congr (fun k h1 h2 => ⟨sout k (by omega), iout k h2 (by omega), pout k (by omega)⟩)
  · rcases cs k with ⟨i, hi, rfl⟩ | h1
    · obtain ⟨x, y, h1, h2, h3, h4, h5, _⟩ := inew i hi
      rw [hpl i hi, h5]
      omega
    · rw [iout k (by omega) h1]
      have := low k (by omega)
      omega
  · obtain ⟨k, hk, rfl⟩ := hpm'.sur x hx
    obtain ⟨j, hj, rfl⟩ := hpm'.sur y hy
    rcases cs k with ⟨i, hi, rfl⟩ | h1 <;> rcases cs j with ⟨i', hi', rfl⟩ | h2
    · rw [pin i hi, pin i' hi'] at *
      exact dep2' i i' hi hi' (fun e => hne (by rw [e])) he
    · rw [hpl i hi, iout j hj h2] at he
      obtain ⟨x, y, h1, h2', h3, h4, h5, _⟩ := inew i hi
      rcases Nat.lt_or_ge j pi with h6 | h6
      · have := low j h6; omega
      · have := high j hj (by omega); omega
    · rw [hpl i' hi', iout k hk h1] at he
      obtain ⟨x, y, h1', h2', h3, h4, h5, _⟩ := inew i' hi'
      rcases Nat.lt_or_ge k pi with h6 | h6
      · have := low k h6; omega
      · have := high k hk (by omega); omega
    · rw [iout k hk h1] at he hlt
      rw [iout j hj h2] at he
      rw [pout k h1, pout j h2] at *
      have : k < pi := by
        rcases Nat.lt_or_ge k pi with h6 | h6
        · exact h6
        · have := high k hk (by omega); omega
      exact a.dep2 _ _ (a.pm.lt k hk) (a.pm.lt j hj) hne he (low k this)
  · left
    have := (hg pi (Nat.le_refl _) (by omega)).2.2
    omega
end
end Go.Proofs.Ytaihafoopoaahaa
