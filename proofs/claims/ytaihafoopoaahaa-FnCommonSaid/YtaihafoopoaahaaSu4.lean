/- Plain law of qsufsort's passes: groups, runs, and what one pass does to them. No condition. -/
import Derived.Test.YtaihafoopoaahaaSu2
import Derived.Sort.Lot0
namespace Go.Proofs.Ytaihafoopoaahaa

/-- p is a permutation of [0, n). -/
structure Pm (n : Nat) (p : Nat → Nat) : Prop where
  lt : ∀ k, k < n → p k < n
  inj : ∀ j k, j < n → k < n → p j = p k → j = k
  sur : ∀ x, x < n → ∃ k, k < n ∧ p k = x

/-- The groups' numbers: each the last place of its group. -/
structure Gp (n : Nat) (I : Nat → Int) (p : Nat → Nat) : Prop where
  ge : ∀ k, k < n → (k : Int) ≤ I (p k) ∧ I (p k) < n
  eq : ∀ j k, j ≤ k → k < n → (k : Int) ≤ I (p j) → I (p k) = I (p j)

/-- What the numbers tell of the suffixes: ordered by them; alike ones agree in h bytes, and go on behind. -/
structure Vl (s : List UInt8) (n : Nat) (I : Nat → Int) (h : Nat) : Prop where
  ord : ∀ x y, x < n → y < n → I x < I y → s.drop x < s.drop y
  dep : ∀ x y, x < n → y < n → x ≠ y → I x = I y → x + h < n ∧ (s.drop x).take h = (s.drop y).take h

inductive Stp (n : Nat) (S I : Nat → Int) (p : Nat → Nat) (h : Nat) : Nat → Nat → Prop
  | run (x l : Nat) : S x = -(l : Int) → 0 < l → x + l ≤ n → (∀ k, x ≤ k → k < x + l → I (p k) = k) → Stp n S I p h x (x + l)
  | grp (x e : Nat) : x ≤ e → e < n → (∀ k, x ≤ k → k ≤ e → S k = p k ∧ I (p k) = e ∧ p k + h < n) → Stp n S I p h x (e + 1)

inductive Pth (n : Nat) (S I : Nat → Int) (p : Nat → Nat) (h : Nat) : Nat → Nat → Prop
  | refl (x : Nat) : Pth n S I p h x x
  | cons (x y z : Nat) : Stp n S I p h x y → Pth n S I p h y z → Pth n S I p h x z

section
variable {n pi m : Nat} {S S' I I' : Nat → Int} {p p' : Nat → Nat} {h : Nat} {s : List UInt8}

theorem Stp.lt {x y : Nat} (t : Stp n S I p h x y) : x < y := by cases t <;> omega
theorem Stp.le {x y : Nat} (t : Stp n S I p h x y) : y ≤ n := by cases t <;> omega
theorem Pth.le {x y : Nat} (t : Pth n S I p h x y) : x ≤ y := by
  induction t with
  | refl => exact Nat.le_refl _
  | cons x y z hs _ ih => have := hs.lt; omega
theorem Pth.trans {x y z : Nat} (a : Pth n S I p h x y) (b : Pth n S I p h y z) : Pth n S I p h x z := by
  induction a with
  | refl => exact b
  | cons x y z hs _ ih => exact .cons _ _ _ hs (ih b)
theorem Pth.one {x y : Nat} (a : Stp n S I p h x y) : Pth n S I p h x y := .cons _ _ _ a (.refl _)

theorem Stp.congr {x y : Nat} (t : Stp n S I p h x y) (hc : ∀ k, x ≤ k → k < y → S' k = S k ∧ I' (p' k) = I (p k) ∧ p' k = p k) : Stp n S' I' p' h x y := by
  cases t with
  | run l h1 h2 h3 h4 =>
    exact .run x l (by rw [(hc x (Nat.le_refl _) (by omega)).1]; exact h1) h2 h3 (fun k h5 h6 => by rw [(hc k h5 h6).2.1]; exact h4 k h5 h6)
  | grp e h1 h2 h3 =>
    refine .grp x e h1 h2 (fun k h5 h6 => ?_)
    obtain ⟨c1, c2, c3⟩ := hc k h5 (by omega)
    rw [c1, c2, c3]
    exact h3 k h5 h6
theorem Pth.congr {x y : Nat} (t : Pth n S I p h x y) (hc : ∀ k, x ≤ k → k < y → S' k = S k ∧ I' (p' k) = I (p k) ∧ p' k = p k) : Pth n S' I' p' h x y := by
  induction t with
  | refl => exact .refl _
  | cons x y z hs ht ih =>
    have h1 := hs.lt
    have h2 := ht.le
    exact .cons _ _ _ (hs.congr (fun k h3 h4 => hc k h3 (by omega))) (ih (fun k h3 h4 => hc k (by omega) h4))

theorem Gp.mono (g : Gp n I p) {j k : Nat} (hjk : j ≤ k) (hk : k < n) : I (p j) ≤ I (p k) := by
  by_cases h1 : (k : Int) ≤ I (p j)
  · rw [g.eq j k hjk hk h1]; exact Int.le_refl _
  · have := (g.ge k hk).1; omega

/-- In the middle of a pass: [0, pi) is done, of which the last m places are alone and not yet told so. -/
structure Ps (s : List UInt8) (n : Nat) (S I : Nat → Int) (p : Nat → Nat) (h pi m : Nat) : Prop where
  pm : Pm n p
  gp : Gp n I p
  vl : Vl s n I h
  left : Pth n S I p (2 * h) 0 (pi - m)
  mid : ∀ k, pi - m ≤ k → k < pi → I (p k) = k
  mpi : m ≤ pi
  right : Pth n S I p h pi n
  bnd : ∀ k, k < pi → I (p k) < pi
  dep2 : ∀ x y, x < n → y < n → x ≠ y → I x = I y → I x < pi → x + 2 * h < n ∧ (s.drop x).take (2 * h) = (s.drop y).take (2 * h)
  flag : h < n ∨ m = pi

/-- At the head of a pass. -/
structure Hd (s : List UInt8) (n : Nat) (S I : Nat → Int) (p : Nat → Nat) (h : Nat) : Prop where
  pm : Pm n p
  gp : Gp n I p
  vl : Vl s n I h
  path : Pth n S I p h 0 n
  flag : h < 2 * n ∨ S 0 = -(n : Int)

theorem Hd.start (a : Hd s n S I p h) : Ps s n S I p h 0 0 :=
  ⟨a.pm, a.gp, a.vl, .refl _, fun k _ h2 => by omega, Nat.le_refl _, a.path, fun k h => by omega,
    fun x y hx _ _ _ h5 => by
      obtain ⟨k, hk, rfl⟩ := a.pm.sur x hx
      have := (a.gp.ge k hk).1
      omega,
    Or.inr rfl⟩

/-- All alone: the numbers are the places. -/
theorem Hd.fin (a : Hd s n S I p h) (hn : 0 < n) (h0 : S 0 ≤ -(n : Int)) : ∀ k, k < n → I (p k) = k := by
  have hp := a.path
  generalize hx : (0 : Nat) = x0 at hp h0
  cases hp with
  | refl => omega
  | cons _ y _ hs ht =>
    cases hs with
    | run l h1 h2 h3 h4 =>
      intro k hk
      exact h4 k (by omega) (by omega)
    | grp e h1 h2 h3 =>
      have := (h3 x0 (Nat.le_refl _) h1).1
      omega

theorem Ps.run (a : Ps s n S I p h pi m) (hpi : pi < n) (hneg : S pi < 0) : ∃ l : Nat, S pi = -(l : Int) ∧ 0 < l ∧ pi + l ≤ n ∧ Ps s n S I p h (pi + l) (m + l) := by
  have hr := a.right
  generalize hx : pi = x0 at hr
  cases hr with
  | refl => omega
  | cons _ y _ hs ht =>
    subst hx
    cases hs with
    | run l h1 h2 h3 h4 =>
      refine ⟨l, h1, h2, h3, a.pm, a.gp, a.vl, ?_, fun k h5 h6 => ?_, by have := a.mpi; omega, ht, fun k h5 => ?_, fun x y hx hy hne he hlt => ?_, ?_⟩
      · rw [show pi + l - (m + l) = pi - m by omega]; exact a.left
      · by_cases h7 : k < pi
        · exact a.mid k (by omega) h7
        · exact h4 k (by omega) h6
      · by_cases h7 : k < pi
        · have := a.bnd k h7; omega
        · have := h4 k (by omega) h5; omega
      · by_cases h7 : I x < pi
        · exact a.dep2 x y hx hy hne he h7
        · obtain ⟨k, hk, rfl⟩ := a.pm.sur x hx
          obtain ⟨j, hj, rfl⟩ := a.pm.sur y hy
          have g1 := (a.gp.ge k hk).1
          have g2 := (a.gp.ge j hj).1
          have k1 : pi ≤ k := by
            rcases Nat.lt_or_ge k pi with h8 | h8
            · have := a.bnd k h8; omega
            · exact h8
          have j1 : pi ≤ j := by
            rcases Nat.lt_or_ge j pi with h8 | h8
            · have := a.bnd j h8; omega
            · exact h8
          have e1 := h4 k k1 (by omega)
          have e2 := h4 j j1 (by omega)
          exact absurd (show p k = p j by rw [show k = j by omega]) hne
      · rcases a.flag with h5 | h5
        · exact Or.inl h5
        · exact Or.inr (by omega)
    | grp e h1 h2 h3 =>
      have := (h3 pi (Nat.le_refl _) h1).1
      omega

/-- An unsorted group ahead. -/
theorem Ps.grp (a : Ps s n S I p h pi m) (hpi : pi < n) (hneg : ¬ S pi < 0) : ∃ e : Nat, pi ≤ e ∧ e < n ∧ I (p pi) = e ∧ S pi = p pi ∧ (∀ k, pi ≤ k → k ≤ e → S k = p k ∧ I (p k) = e ∧ p k + h < n) ∧ Pth n S I p h (e + 1) n := by
  have hr := a.right
  generalize hx : pi = x0 at hr
  cases hr with
  | refl => omega
  | cons _ y _ hs ht =>
    subst hx
    cases hs with
    | run l h1 h2 h3 h4 => omega
    | grp e h1 h2 h3 => exact ⟨e, h1, h2, (h3 pi (Nat.le_refl _) h1).2.1, (h3 pi (Nat.le_refl _) h1).1, h3, ht⟩

/-- The run behind is told. -/
theorem Ps.told (a : Ps s n S I p h pi m) (hpi : pi ≤ n) (hm : 0 < m) : Pth n (upd S (pi - m) (-(m : Int))) I p (2 * h) 0 pi ∧ Pth n (upd S (pi - m) (-(m : Int))) I p h pi n := by
  have hmp := a.mpi
  have e : ∀ k, k ≠ pi - m → upd S (pi - m) (-(m : Int)) k = S k := fun k hk => by unfold upd; rw [if_neg hk]
  refine ⟨(a.left.congr (fun k _ h2 => ⟨e k (by omega), rfl, rfl⟩)).trans (.one ?_), a.right.congr (fun k h1 h2 => ⟨e k (by omega), rfl, rfl⟩)⟩
  have h1 := Stp.run (n := n) (S := upd S (pi - m) (-(m : Int))) (I := I) (p := p) (h := 2 * h) (pi - m) m (by unfold upd; rw [if_pos rfl]) hm (by omega) (fun k h1 h2 => a.mid k h1 (by omega))
  rw [show pi - m + m = pi by omega] at h1
  exact h1

theorem Ps.tell (a : Ps s n S I p h pi m) (hpi : pi ≤ n) (hm : 0 < m) (hh : h < n) : Ps s n (upd S (pi - m) (-(m : Int))) I p h pi 0 := by
  obtain ⟨h1, h2⟩ := a.told hpi hm
  exact ⟨a.pm, a.gp, a.vl, h1, fun k h3 h4 => by omega, Nat.zero_le _, h2, a.bnd, a.dep2, Or.inl hh⟩

/-- The end of a pass. -/
theorem Ps.done (a : Ps s n S I p h n m) (hn : 0 < n) : Hd s n (if m = 0 then S else upd S (n - m) (-(m : Int))) I p (2 * h) := by
  refine ⟨a.pm, a.gp, ⟨a.vl.ord, fun x y hx hy hne he => ?_⟩, ?_, ?_⟩
  · obtain ⟨k, hk, rfl⟩ := a.pm.sur x hx
    exact a.dep2 _ y hx hy hne he (a.gp.ge k hk).2
  · split
    · rename_i hm
      have := a.left
      rw [hm] at this
      exact this
    · exact (a.told (Nat.le_refl _) (by omega)).1
  · rcases a.flag with h1 | h1
    · exact Or.inl (by omega)
    · right
      rw [if_neg (by omega), h1]
      unfold upd
      simp
end
end Go.Proofs.Ytaihafoopoaahaa
