/- Plain law: a text cut at its first point; numerals; where the order of identifiers is nought they are the same. -/
import Derived.Test.YtaoeelhgfdknfaaDoorW6
import Derived.Test.YtaoeelhgfdknfaaDoorSh1
import Derived.Lib.SmallJoins
namespace Go.Proofs.YtaoeelhgfdknfaaDoor
open Go.RowKit

theorem decFrom_num : ∀ (l : Bs) (acc : Nat), l.all isDig = true → ∃ n, Lib.decFrom acc l = some n ∧ (n : Int) = l.foldl (fun n c => n * 10 + ((c.toNat : Int) - 48)) (acc : Int)
  | [], acc, _ => ⟨acc, rfl, rfl⟩
  | c :: l, acc, h => by
    simp only [List.all_cons, Bool.and_eq_true] at h
    have hc := isDig_iff.1 h.1
    obtain ⟨n, h1, h2⟩ := decFrom_num l (acc * 10 + (c.toNat - 48)) h.2
    refine ⟨n, ?_, ?_⟩
    · unfold Lib.decFrom
      have : Lib.digitVal c = some (c.toNat - 48) := by unfold Lib.digitVal; rw [if_pos hc]
      rw [this]; exact h1
    · rw [h2, List.foldl_cons]
      congr 1
      omega
theorem atoi_num {l : Bs} (h : digitsB l = true) : Lib.atoi l = some (numB l) := by
  have ha := digits_all h
  cases l with
  | nil => simp [digitsB] at h
  | cons c l =>
    obtain ⟨n, h1, h2⟩ := decFrom_num (c :: l) 0 ha
    have hc := isDig_iff.1 (List.all_eq_true.1 ha c (List.mem_cons_self ..))
    have e1 : (c == 45) = false := by rw [beq_eq_false_iff_ne]; rintro rfl; revert hc; decide
    have e2 : (c == 43) = false := by rw [beq_eq_false_iff_ne]; rintro rfl; revert hc; decide
    show (if (c == 45) = true then (Lib.decNat l).map fun (m : Nat) => -(m : Int) else if (c == 43) = true then (Lib.decNat l).map fun (m : Nat) => (m : Int) else (Lib.decNat (c :: l)).map fun (m : Nat) => (m : Int)) = _
    rw [e1, e2]
    simp only [Bool.false_eq_true, if_false]
    unfold Lib.decNat
    rw [show (c :: l).isEmpty = false from rfl]
    simp only [Bool.false_eq_true, if_false, h1, Option.map_some]
    rw [h2]; rfl

/-- A text cut at its first point. -/
def cut46 : Bs → Bs × Bs
  | [] => ([], [])
  | c :: l => if c = 46 then ([], l) else (c :: (cut46 l).1, (cut46 l).2)
theorem cut_idx : ∀ l : Bs, (Lib.indexByte l 46 = -1 ∧ cut46 l = (l, []) ∧ dots l = [l]) ∨ (∃ k : Nat, Lib.indexByte l 46 = k ∧ k < l.length ∧ cut46 l = (l.take k, l.drop (k + 1)) ∧ dots l = l.take k :: dots (l.drop (k + 1)))
  | [] => Or.inl ⟨rfl, rfl, rfl⟩
  | c :: l => by
    by_cases hc : c = 46
    · subst hc
      exact Or.inr ⟨0, by simp [Lib.indexByte], by simp, by simp [cut46], by rw [dots_point]; rfl⟩
    · have e1 : (c == 46) = false := beq_eq_false_iff_ne.2 hc
      obtain ⟨h, t, hd1, hd2⟩ := dots_cons c l hc
      rcases cut_idx l with ⟨h1, h2, h3⟩ | ⟨k, h1, h2, h3, h4⟩
      · left
        rw [h3] at hd1
        injection hd1 with e2 e3
        refine ⟨?_, ?_, by rw [hd2, ← e2, ← e3]⟩
        · unfold Lib.indexByte; rw [e1, h1]; decide
        · unfold cut46; rw [if_neg hc, h2]
      · right
        rw [h4] at hd1
        injection hd1 with e2 e3
        refine ⟨k + 1, ?_, by simp; omega, ?_, ?_⟩
        · unfold Lib.indexByte
          rw [e1, h1]
          have : ((k : Int) == -1) = false := by rw [beq_eq_false_iff_ne]; omega
          rw [this]; simp
        · unfold cut46; rw [if_neg hc, h3]; simp
        · rw [hd2, ← e2, ← e3]; simp

/-- What is left of a pre-release: its last identifiers. -/
def Rem (rest : Bs) (X : List Bs) : Prop := (X = [] ∧ rest = []) ∨ (rest ≠ [] ∧ dots rest = X)
theorem Rem.cut {rest : Bs} {x : Bs} {X : List Bs} (h : Rem rest (x :: X)) (hne : ∀ y ∈ x :: X, y ≠ []) : (cut46 rest).1 = x ∧ Rem (cut46 rest).2 X := by
  rcases h with ⟨h, _⟩ | ⟨h1, h2⟩
  · cases h
  · rcases cut_idx rest with ⟨_, h3, h4⟩ | ⟨k, _, _, h3, h4⟩
    · rw [h4] at h2
      injection h2 with e1 e2
      rw [h3]
      exact ⟨e1, Or.inl ⟨e2.symm, rfl⟩⟩
    · rw [h4] at h2
      injection h2 with e1 e2
      rw [h3]
      refine ⟨e1, Or.inr ⟨?_, e2⟩⟩
      intro e
      replace e : rest.drop (k + 1) = [] := e
      rw [e] at e2
      have : ([] : Bs) ∈ x :: X := by rw [← e2]; exact List.mem_cons_of_mem _ (List.mem_cons_self ..)
      exact hne _ this rfl
theorem Rem.empty_iff {rest : Bs} {X : List Bs} (h : Rem rest X) : rest = [] ↔ X = [] := by
  rcases h with ⟨h1, h2⟩ | ⟨h1, h2⟩
  · simp [h1, h2]
  · constructor
    · intro e; exact absurd e h1
    · intro e; rw [e] at h2; exact absurd h2 (dots_ne rest)

/-! ### where the order is nought -/
theorem numB_pos : ∀ (n : Nat) (l : Bs) (c : UInt8), l.length = n → (c :: l).all isDig = true → c ≠ 48 → 0 < numB (c :: l)
  | 0, l, c, h, hd, hc => by
    obtain rfl : l = [] := List.eq_nil_of_length_eq_zero h
    have h1 := isDig_iff.1 (List.all_eq_true.1 hd c (List.mem_cons_self ..))
    have h2 : c.toNat ≠ 48 := fun e => hc (UInt8.toNat_inj.1 e)
    simp [numB]; omega
  | n + 1, l, c, h, hd, hc => by
    rcases List.eq_nil_or_concat l with rfl | ⟨x, d, rfl⟩
    · simp at h
    · rw [List.concat_eq_append] at *
      rw [← List.cons_append, List.all_append] at hd
      simp only [Bool.and_eq_true] at hd
      have h1 := numB_pos n x c (by simpa using h) hd.1 hc
      have h3 := isDig_iff.1 (by simpa using hd.2 : isDig d = true)
      rw [← List.cons_append, numB_snoc]
      omega
def noLead (l : Bs) : Prop := l.length ≤ 1 ∨ l.head? ≠ some 48
theorem numB_inj : ∀ (n : Nat) (x y : Bs), x.length + y.length = n → x.all isDig = true → y.all isDig = true → noLead x → noLead y → x ≠ [] → y ≠ [] → numB x = numB y → x = y
  | n, x, y, hn, hx, hy, lx, ly, nx, ny, he => by
    rcases List.eq_nil_or_concat x with rfl | ⟨x', c, rfl⟩
    · exact absurd rfl nx
    rcases List.eq_nil_or_concat y with rfl | ⟨y', d, rfl⟩
    · exact absurd rfl ny
    rw [List.concat_eq_append] at *
    rw [List.concat_eq_append] at *
    rw [List.all_append] at hx hy
    simp only [Bool.and_eq_true] at hx hy
    have hc := isDig_iff.1 (by simpa using hx.2 : isDig c = true)
    have hd := isDig_iff.1 (by simpa using hy.2 : isDig d = true)
    rw [numB_snoc, numB_snoc] at he
    have h1 : numB x' = numB y' := by omega
    have h2 : c = d := UInt8.toNat_inj.1 (by omega)
    subst h2
    have hhead : ∀ (l : Bs) (c : UInt8), noLead (l ++ [c]) → ∀ a t, l = a :: t → a ≠ 48 := by
      rintro l c h a t rfl e
      subst e
      rcases h with h | h
      · simp at h
      · simp at h
    cases hx' : x' with
    | nil =>
      cases hy' : y' with
      | nil => rfl
      | cons a t =>
        have := numB_pos t.length t a rfl (by rw [← hy']; exact hy.1) (hhead y' c ly a t hy')
        rw [hx', hy'] at h1
        simp [numB] at h1 this
        omega
    | cons b s =>
      cases hy' : y' with
      | nil =>
        have := numB_pos s.length s b rfl (by rw [← hx']; exact hx.1) (hhead x' c lx b s hx')
        rw [hx', hy'] at h1
        simp [numB] at h1 this
        omega
      | cons a t =>
        have hlt : x'.length + y'.length < n := by simp at hn; omega
        have := numB_inj (x'.length + y'.length) x' y' rfl hx.1 hy.1 (Or.inr (by rw [hx']; simpa using hhead x' c lx b s hx')) (Or.inr (by rw [hy']; simpa using hhead y' c ly a t hy')) (by rw [hx']; simp) (by rw [hy']; simp) h1
        rw [← hx', ← hy', this]
termination_by n => n
theorem lead_no {x : Bs} (h : leads x = false) (hd : digitsB x = true) : noLead x := by
  unfold leads at h
  rw [hd] at h
  by_cases h1 : 1 < x.length
  · right
    rw [decide_eq_true h1] at h
    simpa using h
  · left; omega
theorem sgn_zero {a b : Int} (h : sgn a b = 0) : a = b := by
  unfold sgn at h
  split at h
  · omega
  · split at h <;> omega
theorem identC_zero {x y : Bs} (hx : leads x = false) (hy : leads y = false) (h : identC x y = 0) : x = y := by
  unfold identC at h
  cases hdx : digitsB x <;> cases hdy : digitsB y <;> rw [hdx, hdy] at h
  · cases hl : Op.bytesLess x y <;> rw [hl] at h
    · cases hl2 : Op.bytesLess y x <;> rw [hl2] at h
      · have := bl_total x y
        rw [hl, hl2] at this
        simpa using this
      · simp at h
    · simp at h
  · simp at h
  · simp at h
  · have h1 : sgn (numB x) (numB y) = 0 := by simpa using h
    refine numB_inj _ x y rfl (digits_all hdx) (digits_all hdy) (lead_no hx hdx) (lead_no hy hdy) ?_ ?_ (sgn_zero h1)
    · rintro rfl; simp [digitsB] at hdx
    · rintro rfl; simp [digitsB] at hdy
theorem idsC_zero : ∀ X Y : List Bs, (∀ x ∈ X, leads x = false) → (∀ y ∈ Y, leads y = false) → idsC X Y = 0 → X = Y
  | [], [], _, _, _ => rfl
  | [], _ :: _, _, _, h => by simp [idsC] at h
  | _ :: _, [], _, _, h => by simp [idsC] at h
  | x :: X, y :: Y, hx, hy, h => by
    unfold idsC at h
    by_cases h0 : identC x y = 0
    · rw [if_neg (by simp [h0])] at h
      rw [identC_zero (hx x (List.mem_cons_self ..)) (hy y (List.mem_cons_self ..)) h0, idsC_zero X Y (fun z hz => hx z (List.mem_cons_of_mem _ hz)) (fun z hz => hy z (List.mem_cons_of_mem _ hz)) h]
    · rw [if_pos h0] at h
      exact absurd h h0
/-- The parts tell the whole. -/
theorem dots_inj : ∀ a b : Bs, dots a = dots b → a = b
  | [], [], _ => rfl
  | [], d :: b, h => by
    by_cases hd : d = 46
    · subst hd; rw [dots_point] at h; simp [dots] at h; exact absurd h (dots_ne b)
    · obtain ⟨x, t, h1, h2⟩ := dots_cons d b hd
      rw [h2] at h; simp [dots] at h
  | c :: a, [], h => by
    by_cases hc : c = 46
    · subst hc; rw [dots_point] at h; simp [dots] at h; exact absurd h (dots_ne a)
    · obtain ⟨x, t, h1, h2⟩ := dots_cons c a hc
      rw [h2] at h; simp [dots] at h
  | c :: a, d :: b, h => by
    by_cases hc : c = 46
    · by_cases hd : d = 46
      · subst hc; subst hd
        rw [dots_point, dots_point] at h
        injection h with _ h
        rw [dots_inj a b h]
      · obtain ⟨x, t, h1, h2⟩ := dots_cons d b hd
        subst hc
        rw [dots_point, h2] at h
        simp at h
    · obtain ⟨x, t, h1, h2⟩ := dots_cons c a hc
      by_cases hd : d = 46
      · subst hd
        rw [dots_point, h2] at h
        simp at h
      · obtain ⟨y, s, h3, h4⟩ := dots_cons d b hd
        rw [h2, h4] at h
        injection h with e1 e2
        injection e1 with e3 e4
        rw [e3, dots_inj a b (by rw [h1, h3, e4, e2])]
end Go.Proofs.YtaoeelhgfdknfaaDoor
