/- Plain law: what the two parsers of versions answer. -/
import Derived.Test.YtaoeelhgfdknfaaDoorP2
import Derived.Lib.ParseIntBCases
namespace Go.Proofs.YtaoeelhgfdknfaaDoor
open Go.RowKit

/-- Where a byte stands first, or the length; what stands before and behind it. -/
def fst (c : UInt8) (l : Bs) : Nat := l.findIdx (· == c)
def bef (c : UInt8) (l : Bs) : Bs := l.take (fst c l)
def aft (c : UInt8) (l : Bs) : Bs := l.drop (fst c l + 1)
def fnd (c : UInt8) (l : Bs) : Bool := decide (fst c l < l.length)
theorem fst_le (c : UInt8) (l : Bs) : fst c l ≤ l.length := List.findIdx_le_length
theorem fst_hit {c : UInt8} {l : Bs} {j : Nat} (h : l[j]? = some c) (hb : ∀ d ∈ l.take j, d ≠ c) : fst c l = j := by
  obtain ⟨hj, he⟩ := List.getElem?_eq_some_iff.1 h
  unfold fst
  rw [List.findIdx_eq hj]
  refine ⟨by simp [he], fun i hi => ?_⟩
  have hm : l[i] ∈ l.take j := by
    rw [List.mem_take_iff_getElem]
    exact ⟨i, by omega, rfl⟩
  have := hb _ hm
  simpa using this
theorem fst_miss {c : UInt8} {l : Bs} (hb : ∀ d ∈ l, d ≠ c) : fst c l = l.length := by
  unfold fst
  rw [List.findIdx_eq_length]
  intro x hx
  simpa using hb x hx
theorem bef_len (c : UInt8) (l : Bs) : (bef c l).length ≤ l.length := by unfold bef; rw [List.length_take]; omega
theorem aft_len (c : UInt8) (l : Bs) : (aft c l).length ≤ l.length := by unfold aft; rw [List.length_drop]; omega

/-! ### numerals -/
theorem uintM_ok : ∀ (l : Bs) (acc : Nat), l.all isDig = true → (acc + 1) * 10 ^ l.length ≤ 10 ^ 18 → ∃ n, Lib.parseUintM (2 ^ 64 - 1) acc l = .ok n ∧ (n : Int) = l.foldl (fun n c => n * 10 + ((c.toNat : Int) - 48)) (acc : Int)
  | [], acc, _, _ => ⟨acc, rfl, rfl⟩
  | c :: l, acc, h, hb => by
    simp only [List.all_cons, Bool.and_eq_true] at h
    have hc := isDig_iff.1 h.1
    have h10 : 1 ≤ 10 ^ l.length := Nat.one_le_pow _ _ (by decide)
    have hb2 : (acc + 1) * 10 * 10 ^ l.length ≤ 10 ^ 18 := by
      rw [List.length_cons, Nat.pow_succ, Nat.mul_comm (10 ^ l.length) 10, ← Nat.mul_assoc] at hb
      exact hb
    have hacc : (acc + 1) * 10 ≤ 10 ^ 18 := Nat.le_trans (Nat.le_mul_of_pos_right _ h10) hb2
    obtain ⟨n, h1, h2⟩ := uintM_ok l (acc * 10 + (c.toNat - 48)) h.2 (Nat.le_trans (Nat.mul_le_mul_right _ (by omega)) hb2)
    refine ⟨n, ?_, ?_⟩
    · unfold Lib.parseUintM
      rw [if_pos hc, if_neg (by omega), if_neg (by omega)]
      exact h1
    · rw [h2, List.foldl_cons]
      congr 1
      omega
theorem uintM_dig : ∀ (M : Nat) (l : Bs) (acc u : Nat), Lib.parseUintM M acc l = .ok u → l.all isDig = true
  | _, [], _, _, _ => rfl
  | M, c :: l, acc, u, h => by
    unfold Lib.parseUintM at h
    split at h
    · rename_i hc
      split at h
      · cases h
      · split at h
        · cases h
        · rw [List.all_cons, isDig_iff.2 hc, uintM_dig M l _ u h]; rfl
    · cases h

/-- What parseNumeric answers. -/
def okNum (x : Bs) : Bool := !(x.isEmpty || x.head? == some 43 || x.head? == some 45 || (decide (1 < x.length) && x.head? == some 48))
def intOk : Lib.NumEnd Int → Option Int
  | .ok v => some v
  | _ => none
def pnum (x : Bs) : Option Int := if okNum x then intOk (Lib.parseIntB 64 x) else none
theorem pnum_ok {x : Bs} (hd : digitsB x = true) (hl : leads x = false) (h18 : x.length ≤ 18) : pnum x = some (numB x) := by
  have ha := digits_all hd
  cases x with
  | nil => simp [digitsB] at hd
  | cons c r =>
    have hc := isDig_iff.1 (List.all_eq_true.1 ha c (List.mem_cons_self ..))
    have e1 : ¬ c = 43 := by rintro rfl; revert hc; decide
    have e2 : ¬ c = 45 := by rintro rfl; revert hc; decide
    have h0 : okNum (c :: r) = true := by
      have := lead_no hl hd
      unfold okNum
      rcases this with h | h
      · have h2 : decide (1 < (c :: r).length) = false := decide_eq_false (by omega)
        rw [h2]; simp [e1, e2]
      · have h3 : ¬ c = 48 := by simpa using h
        simp [e1, e2, h3]
    unfold pnum
    rw [if_pos h0]
    obtain ⟨n, h1, h2⟩ := uintM_ok (c :: r) 0 ha (by
      rw [Nat.zero_add, Nat.one_mul]
      exact Nat.pow_le_pow_right (by decide) h18)
    have hb := num_small ha h18
    have hn : (n : Int) = numB (c :: r) := h2
    rw [Lib.parseIntB_plain 64 c r (by omega) (by omega)]
    unfold Lib.parseUintB
    rw [if_neg (by simp), h1]
    have t3 : ¬ 2 ^ (64 - 1) ≤ n := by
      have := hb.2
      omega
    unfold Lib.signlessC
    simp only [if_neg t3, intOk, hn]
theorem pnum_no {x : Bs} (hd : digitsB x = false) : pnum x = none := by
  unfold pnum
  cases h0 : okNum x
  · rfl
  · rw [if_pos rfl]
    cases x with
    | nil => simp [okNum] at h0
    | cons c r =>
      have e1 : ¬ c = 43 := by rintro rfl; simp [okNum] at h0
      have e2 : ¬ c = 45 := by rintro rfl; simp [okNum] at h0
      have n1 : ¬ c.toNat = 43 := fun e => e1 (UInt8.toNat_inj.1 e)
      have n2 : ¬ c.toNat = 45 := fun e => e2 (UInt8.toNat_inj.1 e)
      rw [Lib.parseIntB_plain 64 c r n1 n2]
      unfold Lib.parseUintB
      rw [if_neg (by simp)]
      cases hp : Lib.parseUintM (2 ^ 64 - 1) 0 (c :: r) with
      | ok u =>
        have := uintM_dig _ _ _ _ hp
        unfold digitsB at hd
        rw [this] at hd
        cases hd
      | _ => rfl

/-! ### the two parsers -/
def numsI (L : List Bs) : Option (Int × Int × Int) := match L with
  | [a, b, c] => match pnum a, pnum b, pnum c with
    | some x, some y, some z => some (x, y, z)
    | _, _, _ => none
  | _ => none
/-- What semver's Parse makes of a text behind its v. -/
def parseT (t : Bs) : Option Ver :=
  if (fnd 43 t && !identsB (aft 43 t)) = true then none
  else if (fnd 45 (bef 43 t) && (!identsB (aft 45 (bef 43 t)) || leadingB (aft 45 (bef 43 t)))) = true then none
  else (numsI (dots (bef 45 (bef 43 t)))).map (fun n => ⟨n.1, n.2.1, n.2.2, aft 45 (bef 43 t), aft 43 t⟩)
def trimV (s : Bs) : Bs := if s.head? = some 118 then s.tail else s
def long (L : List Bs) : Bool := L.any (fun x => decide (18 < x.length))
def numsS (L : List Bs) : Int × Int × Int := match L with
  | [a, b, c] => (numB a, numB b, numB c)
  | _ => (0, 0, 0)
/-- What the reference makes of a text. -/
def specP (s : Bs) : Ver × Int :=
  if s.head? = some 118 ∨ s.head? = some 86 then (⟨0, 0, 0, [], []⟩, 2)
  else if (fnd 43 s && !identsB (aft 43 s)) = true then (⟨0, 0, 0, [], aft 43 s⟩, 0)
  else if (fnd 45 (bef 43 s) && !identsB (aft 45 (bef 43 s))) = true then (⟨0, 0, 0, aft 45 (bef 43 s), aft 43 s⟩, 0)
  else if (dots (bef 45 (bef 43 s))).all digitsB = false then (⟨0, 0, 0, aft 45 (bef 43 s), aft 43 s⟩, 0)
  else if (dots (bef 45 (bef 43 s))).length ≠ 3 then (⟨0, 0, 0, aft 45 (bef 43 s), aft 43 s⟩, 0)
  else if (leadingB (bef 45 (bef 43 s)) || leadingB (aft 45 (bef 43 s)) || long (dots (bef 45 (bef 43 s)))) = true then (⟨0, 0, 0, aft 45 (bef 43 s), aft 43 s⟩, 2)
  else (⟨(numsS (dots (bef 45 (bef 43 s)))).1, (numsS (dots (bef 45 (bef 43 s)))).2.1, (numsS (dots (bef 45 (bef 43 s)))).2.2, aft 45 (bef 43 s), aft 43 s⟩, 1)

theorem numsI_none {L : List Bs} (h : L.all digitsB = false ∨ L.length ≠ 3) : numsI L = none := by
  match L, h with
  | [], _ => rfl
  | [_], _ => rfl
  | [_, _], _ => rfl
  | [a, b, c], h =>
    have h1 : [a, b, c].all digitsB = false := h.resolve_right (by simp)
    show (match pnum a, pnum b, pnum c with | some x, some y, some z => some (x, y, z) | _, _, _ => none) = none
    cases ha : digitsB a
    · rw [pnum_no ha]
    · cases hb : digitsB b
      · rw [pnum_no hb]; cases pnum a <;> rfl
      · cases hc : digitsB c
        · rw [pnum_no hc]; cases pnum a <;> cases pnum b <;> rfl
        · simp [ha, hb, hc] at h1
  | _ :: _ :: _ :: _ :: _, _ => rfl
theorem numsI_some {L : List Bs} (h3 : L.length = 3) (hd : L.all digitsB = true) (hl : L.any leads = false) (hg : long L = false) : numsI L = some (numsS L) := by
  match L, h3 with
  | [a, b, c], _ =>
    simp only [List.all_cons, List.all_nil, Bool.and_true, Bool.and_eq_true] at hd
    simp only [List.any_cons, List.any_nil, Bool.or_false, Bool.or_eq_false_iff] at hl
    simp only [long, List.any_cons, List.any_nil, Bool.or_false, Bool.or_eq_false_iff, decide_eq_false_iff_not] at hg
    show (match pnum a, pnum b, pnum c with | some x, some y, some z => some (x, y, z) | _, _, _ => none) = _
    rw [pnum_ok hd.1 hl.1 (by omega), pnum_ok hd.2.1 hl.2.1 (by omega), pnum_ok hd.2.2 hl.2.2 (by omega)]
    rfl
theorem parse_agree (s : Bs) : (specP s).2 = 2 ∨ ((specP s).2 = 1 ∧ parseT (trimV s) = some (specP s).1) ∨ ((specP s).2 = 0 ∧ parseT (trimV s) = none) := by
  unfold specP
  by_cases h0 : s.head? = some 118 ∨ s.head? = some 86
  · rw [if_pos h0]; exact Or.inl rfl
  rw [if_neg h0]
  have ht : trimV s = s := by unfold trimV; rw [if_neg (fun e => h0 (Or.inl e))]
  rw [ht]
  unfold parseT
  by_cases h1 : (fnd 43 s && !identsB (aft 43 s)) = true
  · rw [if_pos h1, if_pos h1]; exact Or.inr (Or.inr ⟨rfl, rfl⟩)
  rw [if_neg h1, if_neg h1]
  by_cases h2 : (fnd 45 (bef 43 s) && !identsB (aft 45 (bef 43 s))) = true
  · rw [if_pos h2]
    right; right
    refine ⟨rfl, ?_⟩
    rw [Bool.and_eq_true] at h2
    rw [if_pos (by rw [h2.1, h2.2]; rfl)]
  rw [if_neg h2]
  generalize bef 45 (bef 43 s) = core at *
  generalize aft 45 (bef 43 s) = pre at *
  by_cases h3 : (dots core).all digitsB = false
  · rw [if_pos h3]
    right; right
    refine ⟨rfl, ?_⟩
    split
    · rfl
    · rw [numsI_none (Or.inl h3)]; rfl
  rw [if_neg h3]
  by_cases h4 : (dots core).length ≠ 3
  · rw [if_pos h4]
    right; right
    refine ⟨rfl, ?_⟩
    split
    · rfl
    · rw [numsI_none (Or.inr h4)]; rfl
  rw [if_neg h4]
  by_cases h5 : (leadingB core || leadingB pre || long (dots core)) = true
  · rw [if_pos h5]; exact Or.inl rfl
  rw [if_neg h5]
  right; left
  refine ⟨rfl, ?_⟩
  rw [Bool.not_eq_true, Bool.or_eq_false_iff, Bool.or_eq_false_iff] at h5
  have h6 : (fnd 45 (bef 43 s) && (!identsB pre || leadingB pre)) = false := by
    rw [Bool.not_eq_true] at h2
    cases hf : fnd 45 (bef 43 s)
    · rfl
    · rw [hf] at h2
      rw [h5.1.2]
      simpa using h2
  rw [h6, if_neg (by decide), numsI_some (by simpa using h4) (by simpa using h3) h5.1.1 h5.2]
  rfl
end Go.Proofs.YtaoeelhgfdknfaaDoor
