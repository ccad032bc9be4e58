/- Plain: how many of some texts begin with a given one; bytes without twins; the longest common prefix. No condition. -/
import Derived.Test.YtaihafoopoaahaaTx
namespace Go.Proofs.Ytaihafoopoaahaa

theorem nodup_few : ∀ (n : Nat) (l : List Nat), l.Nodup → (∀ x ∈ l, x < n) → l.length ≤ n
  | 0, l, _, h => by
    cases l with
    | nil => simp
    | cons a l => exact absurd (h a (List.mem_cons_self ..)) (by omega)
  | n + 1, l, hn, h => by
    by_cases hm : n ∈ l
    · have h1 := nodup_few n (l.erase n) (hn.erase n) (fun x hx => by
        have h2 := (List.Nodup.mem_erase_iff hn).1 hx
        have h3 := h x h2.2
        have h4 := h2.1
        omega)
      rw [List.length_erase_of_mem hm] at h1
      omega
    · have h1 := nodup_few n l hn (fun x hx => by
        have h3 := h x hx
        have h4 : x ≠ n := fun e => hm (e ▸ hx)
        omega)
      omega
theorem bytes_few {l : Bs} (h : l.Nodup) : l.length ≤ 256 := by
  have h1 := nodup_few 256 (l.map (·.toNat)) (List.Pairwise.map _ (fun a b hne e => hne (UInt8.toNat_inj.1 e)) h) (fun x hx => by
    obtain ⟨y, _, rfl⟩ := List.mem_map.1 hx
    exact y.toNat_lt)
  simpa using h1

/-- 1 where the text s begins with q, and q is not empty. -/
def ind (s q : Bs) : Nat := if q ≠ [] ∧ q <+: s then 1 else 0
/-- How many of the texts begin with q (none for the empty q). -/
def cntU (M : List Bs) (q : Bs) : Nat := if q = [] then 0 else M.countP (fun m => q.isPrefixOf m)

theorem ind_yes {s q : Bs} (h0 : q ≠ []) (h : q <+: s) : ind s q = 1 := if_pos ⟨h0, h⟩
theorem ind_no {s q : Bs} (h : ¬ q <+: s) : ind s q = 0 := if_neg (fun h1 => h h1.2)
theorem ind_nil (s : Bs) : ind s [] = 0 := if_neg (fun h1 => h1.1 rfl)
theorem ind_empty (q : Bs) : ind [] q = 0 := if_neg (fun h1 => h1.1 (List.prefix_nil.1 h1.2))
theorem ind_le (s q : Bs) : ind s q ≤ 1 := by unfold ind; split <;> omega

theorem countP_set (p : Bs → Bool) : ∀ (M : List Bs) (i : Nat) (s m : Bs), M[i]? = some m → (M.set i s).countP p + (if p m then 1 else 0) = M.countP p + (if p s then 1 else 0)
  | [], i, s, m, h => by simp at h
  | a :: M, 0, s, m, h => by
    have : a = m := by simpa using h
    subst this
    simp only [List.set_cons_zero, List.countP_cons]
    omega
  | a :: M, i + 1, s, m, h => by
    have h1 := countP_set p M i s m (by simpa using h)
    simp only [List.set_cons_succ, List.countP_cons]
    omega
theorem cntU_set {M : List Bs} {i : Nat} {s m : Bs} (h : M[i]? = some m) (q : Bs) : cntU (M.set i s) q + ind m q = cntU M q + ind s q := by
  by_cases h0 : q = []
  · subst h0
    simp [cntU, ind]
  · have h1 := countP_set (fun m => q.isPrefixOf m) M i s m h
    simp only [cntU, ind, h0, if_false, ne_eq, not_false_eq_true, true_and]
    simpa [List.isPrefixOf_iff_prefix] using h1
theorem cntU_le (M : List Bs) (q : Bs) : cntU M q ≤ M.length := by
  unfold cntU
  split
  · omega
  · exact List.countP_le_length
theorem cntU_pos {M : List Bs} {q : Bs} : 0 < cntU M q ↔ q ≠ [] ∧ ∃ m ∈ M, q <+: m := by
  unfold cntU
  by_cases h0 : q = []
  · subst h0; simp
  · simp [h0, List.countP_pos_iff, List.isPrefixOf_iff_prefix]
theorem cntU_all {M : List Bs} {q : Bs} (h0 : q ≠ []) : cntU M q = M.length ↔ ∀ m ∈ M, q <+: m := by
  unfold cntU
  simp [h0, List.countP_eq_length, List.isPrefixOf_iff_prefix]
theorem prefix_snoc {q s : Bs} {c : UInt8} : q ++ [c] <+: s ↔ s.take q.length = q ∧ s[q.length]? = some c := by
  constructor
  · rintro ⟨t, rfl⟩
    simp
  · rintro ⟨h1, h2⟩
    have h3 := (List.getElem?_eq_some_iff.1 h2).1
    refine ⟨s.drop (q.length + 1), ?_⟩
    rw [List.append_assoc, List.singleton_append]
    rw [List.getElem?_eq_getElem h3] at h2
    injection h2 with h2
    rw [← h2, ← List.drop_eq_getElem_cons h3]
    conv => lhs; lhs; rw [← h1]
    exact List.take_append_drop ..
theorem prefix_of_snoc {q s : Bs} {c : UInt8} (h : q ++ [c] <+: s) : q <+: s := (List.prefix_append q [c]).trans h
theorem snoc_ne (q : Bs) (c : UInt8) : q ++ [c] ≠ [] := by simp
/-- Whatever is begun with, is begun with step by step. -/
def Clo (U : Bs → Nat) : Prop := ∀ q c, 0 < U (q ++ [c]) → q = [] ∨ 0 < U q
theorem cntU_clo (M : List Bs) : Clo (cntU M) := by
  intro q c h
  by_cases h0 : q = []
  · exact Or.inl h0
  · obtain ⟨_, m, hm, hp⟩ := cntU_pos.1 h
    exact Or.inr (cntU_pos.2 ⟨h0, m, hm, prefix_of_snoc hp⟩)

/-- The state of 'used' when the first i places of s are counted in addition. -/
def addU (U : Bs → Nat) (s : Bs) (i : Nat) (q : Bs) : Nat := U q + ind (s.take i) q
theorem addU_zero (U : Bs → Nat) (s : Bs) : addU U s 0 = U := by
  funext q
  unfold addU
  rw [List.take_zero, ind_empty]
  omega
theorem take_succ_snoc {s : Bs} {i : Nat} {c : UInt8} (h : s[i]? = some c) : s.take (i + 1) = s.take i ++ [c] := by
  rw [List.take_add_one, h]
  rfl
theorem prefix_take_succ {s : Bs} {i : Nat} {c : UInt8} (h : s[i]? = some c) (q : Bs) : q <+: s.take (i + 1) ↔ q <+: s.take i ∨ q = s.take i ++ [c] := by
  rw [take_succ_snoc h]
  constructor
  · intro hp
    have hl := hp.length_le
    rcases Nat.lt_or_ge q.length (s.take i ++ [c]).length with h1 | h1
    · left
      have h2 : q <+: s.take i ++ [c] := hp
      exact List.prefix_of_prefix_length_le h2 (List.prefix_append _ _) (by simp at h1 ⊢; omega)
    · right
      exact hp.eq_of_length (by omega)
  · rintro (h1 | h1)
    · exact h1.trans (List.prefix_append _ _)
    · rw [h1]; exact List.prefix_refl _
theorem addU_succ (U : Bs → Nat) {s : Bs} {i : Nat} {c : UInt8} (h : s[i]? = some c) (q : Bs) : addU U s (i + 1) q = if q = s.take i ++ [c] then addU U s i q + 1 else addU U s i q := by
  unfold addU ind
  by_cases hq : q = s.take i ++ [c]
  · have h0 : q ≠ [] := by rw [hq]; simp
    have hn : ¬ q <+: s.take i := by
      rw [hq]
      intro hp
      have := hp.length_le
      simp at this
      omega
    rw [if_pos hq, if_pos ⟨h0, (prefix_take_succ h q).2 (Or.inr hq)⟩, if_neg (fun h1 => hn h1.2)]
  · rw [if_neg hq]
    congr 1
    by_cases hp : q <+: s.take i
    · have := (prefix_take_succ h q).2 (Or.inl hp)
      simp [hp, this]
    · have : ¬ q <+: s.take (i + 1) := fun h1 => ((prefix_take_succ h q).1 h1).elim hp hq
      simp [hp, this]
theorem addU_full (U : Bs → Nat) (s : Bs) : addU U s s.length = fun q => U q + ind s q := by
  funext q
  unfold addU
  rw [List.take_length]
/-- .. and taken off. -/
def subU (U : Bs → Nat) (s : Bs) (i : Nat) (q : Bs) : Nat := U q - ind (s.take i) q
theorem subU_zero (U : Bs → Nat) (s : Bs) : subU U s 0 = U := by
  funext q
  unfold subU
  rw [List.take_zero, ind_empty]
  omega
theorem subU_full (U : Bs → Nat) (s : Bs) : subU U s s.length = fun q => U q - ind s q := by
  funext q
  unfold subU
  rw [List.take_length]
theorem ind_succ {s : Bs} {i : Nat} {c : UInt8} (h : s[i]? = some c) (q : Bs) : ind (s.take (i + 1)) q = if q = s.take i ++ [c] then 1 else ind (s.take i) q := by
  have h1 := addU_succ (fun _ => 0) h q
  unfold addU at h1
  split at h1
  · rename_i hq
    rw [if_pos hq]
    have hn : ¬ q <+: s.take i := by
      rw [hq]
      intro hp
      have := hp.length_le
      simp at this
      omega
    rw [ind_no hn] at h1
    omega
  · rename_i hq
    rw [if_neg hq]
    omega
theorem subU_succ (U : Bs → Nat) {s : Bs} {i : Nat} {c : UInt8} (h : s[i]? = some c) (q : Bs) : subU U s (i + 1) q = if q = s.take i ++ [c] then U q - 1 else subU U s i q := by
  unfold subU
  rw [ind_succ h]
  split <;> rfl
/-- One path through the counts: what begins with a place that is counted once is counted once. -/
def One (U : Bs → Nat) (s : Bs) : Prop := (∀ q, q ≠ [] → q <+: s → 0 < U q) ∧ ∀ q r, q ≠ [] → q <+: s → U q = 1 → q <+: r → 0 < U r → r <+: s
theorem cntU_one {M : List Bs} {i : Nat} {s : Bs} (h : M[i]? = some s) : One (cntU M) s := by
  have hm : s ∈ M := List.mem_of_getElem? h
  refine ⟨fun q h0 hp => cntU_pos.2 ⟨h0, s, hm, hp⟩, fun q r h0 hp h1 hqr hr => ?_⟩
  obtain ⟨hr0, m, hm2, hrm⟩ := cntU_pos.1 hr
  -- both s and m begin with q, and only one does
  obtain ⟨j, hj⟩ := List.getElem?_of_mem hm2
  by_cases hij : i = j
  · subst hij
    rw [h] at hj
    injection hj with hj
    rw [hj]; exact hrm
  · have e1 := cntU_set (s := []) h q
    rw [ind_empty, ind_yes h0 hp, h1] at e1
    have e2 : (M.set i []).countP (fun m => q.isPrefixOf m) = 0 := by
      have : cntU (M.set i []) q = 0 := by omega
      simpa [cntU, h0] using this
    rw [List.countP_eq_zero] at e2
    exact absurd (List.isPrefixOf_iff_prefix.2 (hqr.trans hrm)) (e2 m (List.mem_of_getElem? (i := j) (by rw [List.getElem?_set_ne hij]; exact hj)))
end Go.Proofs.Ytaihafoopoaahaa
