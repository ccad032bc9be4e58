/- Plain law: the text of a proper version, and what the reference reads in it. -/
import Derived.Test.YtaoeelhgfdknfaaDoorW17
import Derived.Lib.ItoaNum
namespace Go.Proofs.YtaoeelhgfdknfaaDoor
open Go.RowKit Go.Lib

theorem dd_all (u : Nat) : (decDigits u).all isDig = true := by
  induction u using Nat.strongRecOn with
  | _ u ih =>
    have hd : ∀ k : Nat, k < 10 → isDig (UInt8.ofNat (48 + k)) = true := by decide
    by_cases h : u < 10
    · rw [decDigits, dif_pos h]
      simp only [List.all_cons, List.all_nil, Bool.and_true]
      exact hd u h
    · rw [decDigits, dif_neg h, List.all_append, ih (u / 10) (by omega)]
      simp only [List.all_cons, List.all_nil, Bool.and_true, Bool.true_and]
      exact hd _ (by omega)
theorem dd_num (u : Nat) : numB (decDigits u) = u := by
  induction u using Nat.strongRecOn with
  | _ u ih =>
    have hd : ∀ k : Nat, k < 10 → (UInt8.ofNat (48 + k)).toNat = 48 + k := by decide
    by_cases h : u < 10
    · rw [decDigits, dif_pos h]
      show (0 : Int) * 10 + (((UInt8.ofNat (48 + u)).toNat : Int) - 48) = _
      rw [hd u h]; omega
    · rw [decDigits, dif_neg h, numB_snoc, ih (u / 10) (by omega), hd _ (by omega)]
      omega
theorem dd_len : ∀ (k u : Nat), u < 10 ^ (k + 1) → (decDigits u).length ≤ k + 1
  | 0, u, h => by rw [decDigits, dif_pos (by simpa using h)]; simp
  | k + 1, u, h => by
    by_cases h1 : u < 10
    · rw [decDigits, dif_pos h1]; simp
    · rw [decDigits, dif_neg h1, List.length_append]
      have := dd_len k (u / 10) (by rw [Nat.pow_succ] at h; omega)
      simp only [List.length_cons, List.length_nil]
      omega
theorem dd_ne (u : Nat) : decDigits u ≠ [] := by
  rw [decDigits]
  split <;> simp
theorem dd_head (u : Nat) (h : 1 ≤ u) : (decDigits u).head? ≠ some 48 := by
  induction u using Nat.strongRecOn with
  | _ u ih =>
    by_cases h1 : u < 10
    · rw [decDigits, dif_pos h1]
      have hd : ∀ k : Nat, k < 10 → 1 ≤ k → UInt8.ofNat (48 + k) ≠ 48 := by decide
      intro e
      exact hd u h1 h (by simpa using e)
    · rw [decDigits, dif_neg h1]
      have ih2 := ih (u / 10) (by omega) (by omega)
      cases hq : decDigits (u / 10) with
      | nil => exact absurd hq (dd_ne _)
      | cons a t => rw [hq] at ih2; exact ih2
theorem dd_lead (u : Nat) : leads (decDigits u) = false := by
  by_cases h : u < 10
  · rw [decDigits, dif_pos h]
    unfold leads
    simp
  · unfold leads
    have := dd_head u (by omega)
    have : ((decDigits u).head? == some 48) = false := beq_eq_false_iff_ne.2 this
    rw [this, Bool.and_false]
theorem dd_dig (u : Nat) : digitsB (decDigits u) = true := by
  unfold digitsB
  rw [dd_all]
  have := dd_ne u
  cases h : decDigits u with
  | nil => exact absurd h this
  | cons _ _ => rfl
theorem dd_mem {u : Nat} {c : UInt8} (h : c ∈ decDigits u) : 48 ≤ c.toNat ∧ c.toNat ≤ 57 := isDig_iff.1 (List.all_eq_true.1 (dd_all u) c h)

theorem cut_app {c : UInt8} {a b : Bs} (h : ∀ d ∈ a, d ≠ c) : bef c (a ++ c :: b) = a ∧ aft c (a ++ c :: b) = b ∧ fnd c (a ++ c :: b) = true := by
  have hf : fst c (a ++ c :: b) = a.length := fst_hit (by simp) (by rw [List.take_left]; exact h)
  refine ⟨?_, ?_, ?_⟩
  · unfold bef; rw [hf, List.take_left]
  · unfold aft; rw [hf]; simp
  · unfold fnd; rw [hf]; simp
theorem cut_none {c : UInt8} {a : Bs} (h : ∀ d ∈ a, d ≠ c) : bef c a = a ∧ aft c a = [] ∧ fnd c a = false := by
  have hf : fst c a = a.length := fst_miss h
  exact ⟨by unfold bef; rw [hf, List.take_length], by unfold aft; rw [hf]; exact List.drop_eq_nil_of_le (by omega), by unfold fnd; rw [hf]; simp⟩
theorem mem_dots : ∀ (l : Bs) (c : UInt8), c ∈ l → c = 46 ∨ ∃ x ∈ dots l, c ∈ x
  | [], _, h => by cases h
  | d :: l, c, h => by
    by_cases hd : d = 46
    · subst hd
      rcases List.mem_cons.1 h with h | h
      · exact Or.inl h
      · rcases mem_dots l c h with h1 | ⟨x, h1, h2⟩
        · exact Or.inl h1
        · exact Or.inr ⟨x, by rw [dots_point]; exact List.mem_cons_of_mem _ h1, h2⟩
    · obtain ⟨a, t, h1, h2⟩ := dots_cons d l hd
      rw [h2]
      rcases List.mem_cons.1 h with h | h
      · exact Or.inr ⟨d :: a, List.mem_cons_self .., by rw [h]; exact List.mem_cons_self ..⟩
      · rcases mem_dots l c h with h3 | ⟨x, h3, h4⟩
        · exact Or.inl h3
        · rw [h1] at h3
          rcases List.mem_cons.1 h3 with h3 | h3
          · exact Or.inr ⟨d :: a, List.mem_cons_self .., by rw [h3] at h4; exact List.mem_cons_of_mem _ h4⟩
          · exact Or.inr ⟨x, List.mem_cons_of_mem _ h3, h4⟩
theorem idents_mem {l : Bs} (h : identsB l = true) {c : UInt8} (hc : c ∈ l) : c = 46 ∨ isIdc c = true := by
  rcases mem_dots l c hc with h1 | ⟨x, h1, h2⟩
  · exact Or.inl h1
  · have h3 := List.all_eq_true.1 h x h1
    rw [Bool.and_eq_true] at h3
    exact Or.inr (List.all_eq_true.1 h3.1 c h2)

/-- The text of a version. -/
def numsT (m n p : Nat) : Bs := decDigits m ++ 46 :: (decDigits n ++ 46 :: decDigits p)
def preT (pre : Bs) : Bs := if pre.isEmpty then [] else 45 :: pre
def metT (met : Bs) : Bs := if met.isEmpty then [] else 43 :: met
def fmtB (v : Ver) : Bs := numsT v.maj.toNat v.min.toNat v.pat.toNat ++ preT v.pre ++ metT v.met

theorem nums_mem {m n p : Nat} {c : UInt8} (h : c ∈ numsT m n p) : c = 46 ∨ (48 ≤ c.toNat ∧ c.toNat ≤ 57) := by
  unfold numsT at h
  simp only [List.mem_append, List.mem_cons] at h
  rcases h with h | h | h | h | h
  · exact Or.inr (dd_mem h)
  · exact Or.inl h
  · exact Or.inr (dd_mem h)
  · exact Or.inl h
  · exact Or.inr (dd_mem h)
theorem nums_dots (m n p : Nat) : dots (numsT m n p) = [decDigits m, decDigits n, decDigits p] := by
  have hn : ∀ u : Nat, ∀ c ∈ decDigits u, c ≠ 46 := by
    rintro u c hc rfl
    have := dd_mem hc
    simp at this
  unfold numsT
  rw [dots_first _ _ (hn m), dots_first _ _ (hn n), dots_none _ (hn p)]
theorem fmt_spec {v : Ver} (h : properB v = true) : specP (fmtB v) = (v, 1) := by
  obtain ⟨mj, mn, pt, pre, met⟩ := v
  unfold properB at h
  simp only [Bool.and_eq_true, Bool.or_eq_true, decide_eq_true_eq, Bool.not_eq_true'] at h
  obtain ⟨⟨⟨⟨⟨⟨⟨b1, b2⟩, b3⟩, b4⟩, b5⟩, b6⟩, hp⟩, hm⟩ := h
  obtain ⟨m, rfl⟩ := Int.eq_ofNat_of_zero_le b1
  obtain ⟨n, rfl⟩ := Int.eq_ofNat_of_zero_le b2
  obtain ⟨p, rfl⟩ := Int.eq_ofNat_of_zero_le b3
  have hpre : ∀ c ∈ preT pre, c ≠ 43 := by
    rintro c hc rfl
    unfold preT at hc
    split at hc
    · cases hc
    · rename_i hne
      rcases List.mem_cons.1 hc with hc | hc
      · revert hc; decide
      · rcases hp with hp | hp
        · exact hne hp
        · rcases idents_mem hp.1.1 hc with h1 | h1 <;> revert h1 <;> decide
  have hX43 : ∀ c ∈ numsT m n p ++ preT pre, c ≠ 43 := by
    intro c hc
    rcases List.mem_append.1 hc with hc | hc
    · rintro rfl
      rcases nums_mem hc with h1 | h1
      · revert h1; decide
      · simp at h1
    · exact hpre c hc
  have hX45 : ∀ c ∈ numsT m n p, c ≠ 45 := by
    rintro c hc rfl
    rcases nums_mem hc with h1 | h1
    · revert h1; decide
    · simp at h1
  have hs : fmtB ⟨m, n, p, pre, met⟩ = numsT m n p ++ preT pre ++ metT met := rfl
  have hcut1 : bef 43 (fmtB ⟨m, n, p, pre, met⟩) = numsT m n p ++ preT pre ∧ aft 43 (fmtB ⟨m, n, p, pre, met⟩) = met ∧ (fnd 43 (fmtB ⟨m, n, p, pre, met⟩) && !identsB met) = false := by
    rw [hs]
    unfold metT
    cases he : met.isEmpty
    · obtain ⟨h1, h2, h3⟩ := cut_app (b := met) hX43
      simp only [Bool.false_eq_true, if_false]
      refine ⟨h1, h2, ?_⟩
      rw [he] at hm
      simp only [Bool.false_eq_true, false_or] at hm
      rw [hm]; simp
    · have e0 : met = [] := by simpa using he
      simp only [if_true, List.append_nil]
      obtain ⟨h1, h2, h3⟩ := cut_none hX43
      exact ⟨h1, by rw [h2, e0], by rw [h3]; rfl⟩
  have hcut2 : bef 45 (numsT m n p ++ preT pre) = numsT m n p ∧ aft 45 (numsT m n p ++ preT pre) = pre ∧ (fnd 45 (numsT m n p ++ preT pre) && !identsB pre) = false ∧ leadingB pre = false := by
    unfold preT
    cases he : pre.isEmpty
    · obtain ⟨h1, h2, h3⟩ := cut_app (b := pre) hX45
      simp only [Bool.false_eq_true, if_false]
      rw [he] at hp
      simp only [Bool.false_eq_true, false_or] at hp
      exact ⟨h1, h2, by rw [hp.1.1]; simp, hp.1.2⟩
    · have e0 : pre = [] := by simpa using he
      simp only [if_true, List.append_nil]
      obtain ⟨h1, h2, h3⟩ := cut_none hX45
      exact ⟨h1, by rw [h2, e0], by rw [h3]; rfl, by rw [e0]; decide⟩
  obtain ⟨c1, c2, c3⟩ := hcut1
  obtain ⟨d1, d2, d3, d4⟩ := hcut2
  have h0 : ¬ ((fmtB ⟨m, n, p, pre, met⟩).head? = some 118 ∨ (fmtB ⟨m, n, p, pre, met⟩).head? = some 86) := by
    have e : (fmtB ⟨m, n, p, pre, met⟩).head? = (decDigits m).head? := by
      rw [hs]
      unfold numsT
      cases hd : decDigits m with
      | nil => exact absurd hd (dd_ne m)
      | cons _ _ => rfl
    rw [e]
    cases hd : decDigits m with
    | nil => exact absurd hd (dd_ne m)
    | cons c t =>
      have := dd_mem (u := m) (c := c) (by rw [hd]; exact List.mem_cons_self ..)
      simp only [List.head?_cons, Option.some.injEq]
      rintro (rfl | rfl) <;> simp at this
  have hlen : ∀ u : Nat, (u : Int) < 1000000000000000000 → (decDigits u).length ≤ 18 := fun u hu => dd_len 17 u (by omega)
  have hl1 := hlen m b4
  have hl2 := hlen n b5
  have hl3 := hlen p b6
  have hres := specP_O (s := fmtB ⟨m, n, p, pre, met⟩) (x0 := decDigits m) (x1 := decDigits n) (x2 := decDigits p) h0 (by rw [c2]; exact c3) (by rw [c1, d2]; exact d3)
    (by rw [c1, d1, nums_dots]; simp [dd_dig]) (by rw [c1, d1, nums_dots])
    (by
      rw [c1, d1, d2, d4]
      unfold leadingB long
      rw [nums_dots]
      simp only [List.any_cons, List.any_nil, dd_lead, Bool.or_false, Bool.or_self, Bool.false_or]
      rw [decide_eq_false (by omega), decide_eq_false (by omega), decide_eq_false (by omega)]
      rfl)
  rw [hres, c1, d2, c2, dd_num, dd_num, dd_num]
theorem fmt_impl {v : Ver} (h : properB v = true) : implP (fmtB v) = (v, true) := by
  have hs := fmt_spec h
  rcases parse_agree (fmtB v) with h1 | ⟨_, h1⟩ | ⟨h1, _⟩
  · rw [hs] at h1; cases h1
  · rw [hs] at h1
    unfold implP
    rw [h1]
  · rw [hs] at h1; cases h1

end Go.Proofs.YtaoeelhgfdknfaaDoor
