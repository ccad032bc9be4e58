/- Plain law of sorting by the first byte: where each place goes. No condition. -/
import Derived.Test.YtaihafoopoaahaaSu4
namespace Go.Proofs.Ytaihafoopoaahaa

def cnt (l : List UInt8) (b : Nat) : Nat := l.countP (fun x => x.toNat == b)
def less (l : List UInt8) (b : Nat) : Nat := l.countP (fun x => decide (x.toNat < b))

theorem less_succ (l : List UInt8) (b : Nat) : less l (b + 1) = less l b + cnt l b := by
  unfold less cnt
  induction l with
  | nil => rfl
  | cons x l ih =>
    rw [List.countP_cons, List.countP_cons, List.countP_cons, ih]
    by_cases h1 : x.toNat < b
    · simp [h1, show x.toNat < b + 1 by omega, show ¬ x.toNat = b by omega]; omega
    · by_cases h2 : x.toNat = b
      · simp [h2]; omega
      · simp [h1, h2, show ¬ x.toNat < b + 1 by omega]
theorem less_zero (l : List UInt8) : less l 0 = 0 := by simp [less]
theorem less_all (l : List UInt8) : less l 256 = l.length := by
  unfold less
  rw [List.countP_eq_length]
  intro x _
  have := x.toNat_lt
  simp; omega
theorem less_mono (l : List UInt8) {b c : Nat} (h : b ≤ c) : less l b ≤ less l c := by
  induction h with
  | refl => exact Nat.le_refl _
  | step _ ih => rw [less_succ]; omega
theorem cnt_nil (b : Nat) : cnt [] b = 0 := rfl
theorem cnt_next (l : List UInt8) {i : Nat} (hi : i < l.length) (b : Nat) : cnt (l.take (i + 1)) b = cnt (l.take i) b + if l[i].toNat = b then 1 else 0 := by
  unfold cnt
  rw [List.take_succ_eq_append_getElem hi, List.countP_append, List.countP_cons, List.countP_nil]
  simp
theorem cnt_mono (l : List UInt8) {i j : Nat} (h : i ≤ j) (b : Nat) : cnt (l.take i) b ≤ cnt (l.take j) b := by
  unfold cnt
  have : l.take i = (l.take j).take i := by rw [List.take_take, Nat.min_eq_left h]
  rw [this]
  exact List.Sublist.countP_le (List.take_sublist i (l.take j))
theorem cnt_lt (l : List UInt8) {i j : Nat} (hi : i < l.length) (h : i < j) : cnt (l.take i) l[i].toNat < cnt (l.take j) l[i].toNat := by
  have h1 := cnt_next l hi l[i].toNat
  rw [if_pos rfl] at h1
  have h2 := cnt_mono l (show i + 1 ≤ j by omega) l[i].toNat
  omega
theorem cnt_le (l : List UInt8) (i b : Nat) : cnt (l.take i) b ≤ cnt l b := List.Sublist.countP_le (List.take_sublist i l)

/-- Where place j goes. -/
def pos (l : List UInt8) (j : Nat) : Nat := less l (l.getD j 0).toNat + cnt (l.take j) (l.getD j 0).toNat

theorem pos_lt (l : List UInt8) {j : Nat} (hj : j < l.length) : less l (l.getD j 0).toNat ≤ pos l j ∧ pos l j < less l ((l.getD j 0).toNat + 1) ∧ pos l j < l.length := by
  have e : l.getD j 0 = l[j] := by simp [List.getD_eq_getElem?_getD, hj]
  unfold pos
  rw [e]
  have h1 := cnt_lt l hj hj
  rw [List.take_length] at h1
  have h2 := less_succ l l[j].toNat
  have h3 := l[j].toNat_lt
  have h4 := less_mono l (show l[j].toNat + 1 ≤ 256 by omega)
  rw [less_all] at h4
  omega
theorem pos_inj (l : List UInt8) {i j : Nat} (hi : i < l.length) (hj : j < l.length) (h : pos l i = pos l j) : i = j := by
  have e1 : l.getD i 0 = l[i] := by simp [List.getD_eq_getElem?_getD, hi]
  have e2 : l.getD j 0 = l[j] := by simp [List.getD_eq_getElem?_getD, hj]
  obtain ⟨a1, a2, _⟩ := pos_lt l hi
  obtain ⟨b1, b2, _⟩ := pos_lt l hj
  rw [e1] at a1 a2
  rw [e2] at b1 b2
  rcases Nat.lt_trichotomy l[i].toNat l[j].toNat with h1 | h1 | h1
  · have := less_mono l (show l[i].toNat + 1 ≤ l[j].toNat by omega)
    omega
  · unfold pos at h
    rw [e1, e2, h1] at h
    rcases Nat.lt_trichotomy i j with h2 | h2 | h2
    · have := cnt_lt l hi h2; rw [h1] at this; omega
    · exact h2
    · have := cnt_lt l hj h2; omega
  · have := less_mono l (show l[j].toNat + 1 ≤ l[i].toNat by omega)
    omega
theorem pos_mono (l : List UInt8) {i j : Nat} (hi : i < l.length) (hj : j < l.length) (h : pos l i ≤ pos l j) : (l.getD i 0).toNat ≤ (l.getD j 0).toNat := by
  obtain ⟨a1, a2, _⟩ := pos_lt l hi
  obtain ⟨b1, b2, _⟩ := pos_lt l hj
  rcases Nat.lt_or_ge (l.getD j 0).toNat (l.getD i 0).toNat with h1 | h1
  · have := less_mono l (show (l.getD j 0).toNat + 1 ≤ (l.getD i 0).toNat by omega)
    omega
  · exact h1

theorem pigeon : ∀ (n : Nat) (l : List Nat), l.Nodup → (∀ x ∈ l, x < n) → l.length ≤ n
  | 0, l, _, h => by
    cases l with
    | nil => exact Nat.le_refl _
    | cons x l => exact absurd (h x (List.mem_cons_self)) (by omega)
  | n + 1, l, hn, h => by
    have h1 := pigeon n (l.erase n) (hn.erase n) (fun x hx => by
      have h2 := hn.mem_erase_iff.1 hx
      have := h x h2.2
      omega)
    by_cases hm : n ∈ l
    · rw [List.length_erase_of_mem hm] at h1
      omega
    · rw [List.erase_of_not_mem hm] at h1
      omega
theorem onto {n : Nat} {f : Nat → Nat} (hf : ∀ i, i < n → f i < n) (hi : ∀ i j, i < n → j < n → f i = f j → i = j) {y : Nat} (hy : y < n) : ∃ i, i < n ∧ f i = y := by
  rcases Classical.em (∃ i, i < n ∧ f i = y) with h | h
  · exact h
  exfalso
  have hn : (y :: (List.range' 0 n).map f).Nodup := by
    rw [List.nodup_cons]
    refine ⟨fun hm => ?_, ?_⟩
    · obtain ⟨i, h1, h2⟩ := List.mem_map.1 hm
      exact h ⟨i, by simp at h1; omega, h2⟩
    · refine List.pairwise_map.2 ?_
      rw [List.pairwise_iff_getElem]
      intro a b ha hb hab e
      simp at ha hb e
      have := hi _ _ ha hb e
      omega
  have := pigeon n _ hn (fun x hx => by
    rcases List.mem_cons.1 hx with e | e
    · omega
    · obtain ⟨i, h1, h2⟩ := List.mem_map.1 e
      have := hf i (by simp at h1; omega)
      omega)
  simp at this
  omega

/-- A row that holds each place where it goes: a permutation in the bytes' order. -/
theorem placed (l : List UInt8) (S : Nat → Int) (h : ∀ j, j < l.length → S (pos l j) = j) :
    ∃ p : Nat → Nat, Pm l.length p ∧ (∀ k, k < l.length → S k = p k) ∧ ∀ j k, j ≤ k → k < l.length → (l.getD (p j) 0).toNat ≤ (l.getD (p k) 0).toNat := by
  have hf : ∀ i, i < l.length → pos l i < l.length := fun i hi => (pos_lt l hi).2.2
  have hi : ∀ i j, i < l.length → j < l.length → pos l i = pos l j → i = j := fun i j h1 h2 h3 => pos_inj l h1 h2 h3
  have hS : ∀ k, k < l.length → ∃ j, j < l.length ∧ pos l j = k ∧ S k = j := fun k hk => by
    obtain ⟨j, h1, h2⟩ := onto hf hi hk
    exact ⟨j, h1, h2, by rw [← h2]; exact h j h1⟩
  refine ⟨fun k => (S k).toNat, ⟨fun k hk => ?_, fun j k hj hk e => ?_, fun x hx => ?_⟩, fun k hk => ?_, fun j k hjk hk => ?_⟩
  · obtain ⟨i, h1, h2, h3⟩ := hS k hk
    show (S k).toNat < _
    omega
  · obtain ⟨i, h1, h2, h3⟩ := hS k hk
    obtain ⟨i', h1', h2', h3'⟩ := hS j hj
    have e' : (S j).toNat = (S k).toNat := e
    have : i = i' := by omega
    subst this
    omega
  · exact ⟨pos l x, hf x hx, by show (S (pos l x)).toNat = x; rw [h x hx]; omega⟩
  · obtain ⟨i, h1, h2, h3⟩ := hS k hk
    show S k = (((S k).toNat : Nat) : Int)
    omega
  · obtain ⟨i, h1, h2, h3⟩ := hS k hk
    obtain ⟨i', h1', h2', h3'⟩ := hS j (by omega)
    show (l.getD (S j).toNat 0).toNat ≤ (l.getD (S k).toNat 0).toNat
    rw [h3, h3', show ((i : Int)).toNat = i by omega, show ((i' : Int)).toNat = i' by omega]
    exact pos_mono l h1' h1 (by omega)
end Go.Proofs.Ytaihafoopoaahaa
