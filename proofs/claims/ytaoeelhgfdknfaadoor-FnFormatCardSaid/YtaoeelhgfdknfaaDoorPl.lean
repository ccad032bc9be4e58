/- Plain law: texts as lists of bytes, identifiers between points, the order of versions. -/
import Derived.Laws.Strings
namespace Go.Proofs.YtaoeelhgfdknfaaDoor

abbrev Bs := List UInt8
/-- A text of a list of bytes. -/
def S (l : Bs) : ByteArray := ⟨l.toArray⟩
theorem S_toList (l : Bs) : (S l).toList = l := by rw [ByteArray.toList_eq]; simp [S]
theorem S_size (l : Bs) : (S l).size = l.length := by simp [S, ByteArray.size]
theorem S_of (s : ByteArray) : S s.toList = s := by rw [ByteArray.toList_eq]; simp [S]
theorem S_extract (l : Bs) (a b : Nat) : (S l).extract a b = S ((l.take b).drop a) := by
  have h : ((S l).extract a b).data = (S ((l.take b).drop a)).data := by
    rw [ByteArray.data_extract]
    simp [S, List.extract_toArray, List.extract_eq_take_drop]
    rw [List.drop_take]
  cases h1 : (S l).extract a b
  cases h2 : S ((l.take b).drop a)
  rw [h1, h2] at h
  simp only at h
  rw [h]
theorem S_inj {a b : Bs} (h : S a = S b) : a = b := by rw [← S_toList a, ← S_toList b, h]

def isDig (c : UInt8) : Bool := decide (48 ≤ c.toNat) && decide (c.toNat ≤ 57)
def isIdc (c : UInt8) : Bool := isDig c || (decide (97 ≤ c.toNat) && decide (c.toNat ≤ 122)) || (decide (65 ≤ c.toNat) && decide (c.toNat ≤ 90)) || c.toNat == 45
def digitsB (l : Bs) : Bool := l.all isDig && !l.isEmpty

/-- The parts between points. -/
def dots : Bs → List Bs
  | [] => [[]]
  | c :: l => if c = 46 then [] :: dots l else match dots l with
    | h :: t => (c :: h) :: t
    | [] => [[c]]
theorem dots_ne (l : Bs) : dots l ≠ [] := by
  cases l with
  | nil => simp [dots]
  | cons c l =>
    unfold dots
    split
    · simp
    · split <;> simp
theorem dots_cons (c : UInt8) (l : Bs) (hc : c ≠ 46) : ∃ h t, dots l = h :: t ∧ dots (c :: l) = (c :: h) :: t := by
  cases hd : dots l with
  | nil => exact absurd hd (dots_ne l)
  | cons h t => exact ⟨h, t, rfl, by show (if c = 46 then _ else _) = _; rw [if_neg hc, hd]⟩
theorem dots_point (l : Bs) : dots (46 :: l) = [] :: dots l := by show (if (46 : UInt8) = 46 then _ else _) = _; rw [if_pos rfl]
/-- A first part without a point. -/
theorem dots_none : ∀ (x : Bs), (∀ c ∈ x, c ≠ 46) → dots x = [x]
  | [], _ => rfl
  | c :: x, h => by
    obtain ⟨a, t, h1, h2⟩ := dots_cons c x (h c (List.mem_cons_self ..))
    rw [dots_none x (fun d hd => h d (List.mem_cons_of_mem _ hd))] at h1
    injection h1 with e1 e2
    rw [h2, ← e1, ← e2]
theorem dots_first : ∀ (x l : Bs), (∀ c ∈ x, c ≠ 46) → dots (x ++ 46 :: l) = x :: dots l
  | [], l, _ => dots_point l
  | c :: x, l, h => by
    obtain ⟨a, t, h1, h2⟩ := dots_cons c (x ++ 46 :: l) (h c (List.mem_cons_self ..))
    rw [dots_first x l (fun d hd => h d (List.mem_cons_of_mem _ hd))] at h1
    injection h1 with e1 e2
    rw [List.cons_append, h2, ← e1, ← e2]
theorem dots_length (l : Bs) : (dots l).length ≤ l.length + 1 := by
  induction l with
  | nil => simp [dots]
  | cons c l ih =>
    by_cases hc : c = 46
    · subst hc; rw [dots_point]; simp; exact ih
    · obtain ⟨h, t, h1, h2⟩ := dots_cons c l hc
      rw [h1] at ih
      rw [h2]; simp at ih ⊢; omega
/-- No part holds a point; each is no longer than the whole. -/
theorem dots_mem (l : Bs) : ∀ x ∈ dots l, (∀ c ∈ x, c ≠ 46 ∧ c ∈ l) ∧ x.length ≤ l.length := by
  induction l with
  | nil => intro x hx; simp [dots] at hx; subst hx; exact ⟨(fun c hc => by cases hc), Nat.le_refl _⟩
  | cons c l ih =>
    by_cases hc : c = 46
    · subst hc; rw [dots_point]
      intro x hx
      rcases List.mem_cons.1 hx with rfl | hx
      · exact ⟨(fun c hc => by cases hc), by simp⟩
      · obtain ⟨h1, h2⟩ := ih x hx
        exact ⟨fun d hd => ⟨(h1 d hd).1, List.mem_cons_of_mem _ (h1 d hd).2⟩, by simp; omega⟩
    · obtain ⟨h, t, h1, h2⟩ := dots_cons c l hc
      rw [h2]
      intro x hx
      rcases List.mem_cons.1 hx with rfl | hx
      · obtain ⟨h3, h4⟩ := ih h (by rw [h1]; exact List.mem_cons_self ..)
        refine ⟨fun d hd => ?_, by simp; omega⟩
        rcases List.mem_cons.1 hd with rfl | hd
        · exact ⟨hc, List.mem_cons_self ..⟩
        · exact ⟨(h3 d hd).1, List.mem_cons_of_mem _ (h3 d hd).2⟩
      · obtain ⟨h3, h4⟩ := ih x (by rw [h1]; exact List.mem_cons_of_mem _ hx)
        exact ⟨fun d hd => ⟨(h3 d hd).1, List.mem_cons_of_mem _ (h3 d hd).2⟩, by simp; omega⟩

def identsB (l : Bs) : Bool := (dots l).all (fun x => x.all isIdc && !x.isEmpty)
def leads (x : Bs) : Bool := digitsB x && decide (1 < x.length) && x.head? == some 48
def leadingB (l : Bs) : Bool := (dots l).any leads
def shortB (l : Bs) : Bool := (dots l).all (fun x => !(digitsB x && decide (18 < x.length)))
def numB (l : Bs) : Int := l.foldl (fun n c => n * 10 + ((c.toNat : Int) - 48)) 0

structure Ver where
  maj : Int
  min : Int
  pat : Int
  pre : Bs
  met : Bs
def properB (v : Ver) : Bool :=
  decide (0 ≤ v.maj) && decide (0 ≤ v.min) && decide (0 ≤ v.pat) && decide (v.maj < 1000000000000000000) && decide (v.min < 1000000000000000000) && decide (v.pat < 1000000000000000000) &&
    (v.pre.isEmpty || (identsB v.pre && !leadingB v.pre && shortB v.pre)) && (v.met.isEmpty || identsB v.met)

def sgn (a b : Int) : Int := if a < b then -1 else if b < a then 1 else 0
/-- The order of two identifiers. -/
def identC (a b : Bs) : Int :=
  if digitsB a && digitsB b then sgn (numB a) (numB b)
  else if digitsB a then -1
  else if digitsB b then 1
  else if Op.bytesLess a b then -1
  else if Op.bytesLess b a then 1
  else 0
def idsC : List Bs → List Bs → Int
  | [], [] => 0
  | [], _ :: _ => -1
  | _ :: _, [] => 1
  | a :: x, b :: y => if identC a b ≠ 0 then identC a b else idsC x y
def preC (a b : Bs) : Int := if a = b then 0 else if a = [] then 1 else if b = [] then -1 else idsC (dots a) (dots b)
def verC (a b : Ver) : Int := if sgn a.maj b.maj ≠ 0 then sgn a.maj b.maj else if sgn a.min b.min ≠ 0 then sgn a.min b.min else if sgn a.pat b.pat ≠ 0 then sgn a.pat b.pat else preC a.pre b.pre
end Go.Proofs.YtaoeelhgfdknfaaDoor
