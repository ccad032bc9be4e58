/- What walks down the trie come to, plain: the keys that begin a text, all keys; and a visit that ends early. No condition. -/
import Derived.Test.YtjekaagjgamfkaaDoorTr
namespace Go.Proofs.YtjekaagjgamfkaaDoor.T

def fnd (es : List Ed) (c : Nat) : Option Ed := es.find? (fun e => decide (hd e.lab = c))

theorem fnd_some {es : List Ed} {c : Nat} {e : Ed} (h : fnd es c = some e) : e ∈ es ∧ hd e.lab = c := by
  unfold fnd at h
  have h1 := List.find?_some h
  exact ⟨List.mem_of_find?_eq_some h, by simpa using h1⟩
theorem fnd_none {es : List Ed} {c : Nat} (h : fnd es c = none) : ∀ e ∈ es, hd e.lab ≠ c := by
  unfold fnd at h
  rw [List.find?_eq_none] at h
  intro e he
  simpa using h e he
theorem fnd_at {es : List Ed} (hs : es.Pairwise (fun e f => hd e.lab < hd f.lab)) {i c : Nat} {e : Ed} (hi : es[i]? = some e) (h : hd e.lab = c) : fnd es c = some e := by
  cases hf : fnd es c with
  | none => exact absurd h (fnd_none hf e (List.mem_of_getElem? hi))
  | some f =>
    obtain ⟨h1, h2⟩ := fnd_some hf
    rw [ed_mem hs hi h1 (h.trans h2.symm)]
theorem fnd_no {es : List Ed} {c : Nat} (h : ∀ e ∈ es, hd e.lab ≠ c) : fnd es c = none := by
  unfold fnd
  rw [List.find?_eq_none]
  intro e he
  simpa using h e he

/-- The values of the keys with which a text begins, from a node on. -/
def pfx (s : St) : Nat → Nat → Bs → List Nat
  | 0, _, _ => []
  | f + 1, b, r => match s.D b with
    | none => []
    | some d => d.child.toList ++ (if r.isEmpty then [] else match fnd d.es (hd r) with
      | none => []
      | some e => if e.lab.isPrefixOf r then (match e.tg with | .leaf k => [k] | .node b' => pfx s f b' (r.drop e.lab.length)) else [])

/-- .. behind the node's own value. -/
def rst (s : St) (f : Nat) (d : Nd) (r : Bs) : List Nat := if r.isEmpty then [] else match fnd d.es (hd r) with
      | none => []
      | some e => if e.lab.isPrefixOf r then (match e.tg with | .leaf k => [k] | .node b' => pfx s f b' (r.drop e.lab.length)) else []
theorem pfx_rst {s : St} {f b : Nat} {r : Bs} {d : Nd} (h : s.D b = some d) : pfx s (f + 1) b r = d.child.toList ++ rst s f d r := by simp [pfx, rst, h]
section
variable {s : St} {f b : Nat} {r : Bs} {d : Nd} {e : Ed}
theorem rst_end (hr : r.isEmpty = true) : rst s f d r = [] := by simp [rst, hr]
theorem rst_no (hn : fnd d.es (hd r) = none) : rst s f d r = [] := by simp [rst, hn]
theorem rst_off (hn : fnd d.es (hd r) = some e) (hp : e.lab.isPrefixOf r = false) : rst s f d r = [] := by simp [rst, hn, hp]
theorem rst_leaf {lab : Bs} {k : Nat} (hr : r.isEmpty = false) (hn : fnd d.es (hd r) = some ⟨lab, .leaf k⟩) (hp : lab.isPrefixOf r = true) : rst s f d r = [k] := by simp [rst, hr, hn, hp]
theorem rst_node {lab : Bs} {b' : Nat} (hr : r.isEmpty = false) (hn : fnd d.es (hd r) = some ⟨lab, .node b'⟩) (hp : lab.isPrefixOf r = true) : rst s f d r = pfx s f b' (r.drop lab.length) := by simp [rst, hr, hn, hp]
end

/-- All values, from a node on. -/
def vals (s : St) : Nat → Nat → List Nat
  | 0, _ => []
  | f + 1, b => match s.D b with
    | none => []
    | some d => d.child.toList ++ d.es.flatMap (fun e => match e.tg with | .leaf k => [k] | .node b' => vals s f b')

def valE (s : St) (f : Nat) (e : Ed) : List Nat := match e.tg with | .leaf k => [k] | .node b' => vals s f b'
theorem vals_eq {s : St} {f b : Nat} {d : Nd} (h : s.D b = some d) : vals s (f + 1) b = d.child.toList ++ d.es.flatMap (valE s f) := by
  simp only [vals, h]
  rfl

/-- The number at a value's place. -/
def val (s : St) (k : Nat) : Int := ((s.V k).map (·.2)).getD 0
def key (s : St) (k : Nat) : Bs := ((s.V k).map (·.1)).getD []
theorem val_of {s : St} {k : Nat} {p : Bs} {n : Int} (h : s.V k = some (p, n)) : val s k = n := by simp [val, h]
theorem key_of {s : St} {k : Nat} {p : Bs} {n : Int} (h : s.V k = some (p, n)) : key s k = p := by simp [key, h]

/-- A visit of numbers, one by one, that ends where there are enough of them. -/
def vist (most : Int) : List Int → List Int → List Int × Bool
  | xs, [] => (xs, false)
  | xs, n :: ns => if (xs.length : Int) + 1 = most then (xs ++ [n], true) else vist most (xs ++ [n]) ns

theorem vist_nil {most : Int} {xs : List Int} : vist most xs [] = (xs, false) := rfl
theorem vist_hit {most n : Int} {xs ns : List Int} (h : (xs.length : Int) + 1 = most) : vist most xs (n :: ns) = (xs ++ [n], true) := if_pos h
theorem vist_go {most n : Int} {xs ns : List Int} (h : ¬ (xs.length : Int) + 1 = most) : vist most xs (n :: ns) = vist most (xs ++ [n]) ns := if_neg h
theorem vist_append {most : Int} : ∀ {xs a b : List Int}, vist most xs (a ++ b) = if (vist most xs a).2 then vist most xs a else vist most (vist most xs a).1 b
  | xs, [], b => by simp [vist_nil]
  | xs, n :: a, b => by
    by_cases h : (xs.length : Int) + 1 = most
    · rw [List.cons_append, vist_hit h, vist_hit h]; simp
    · rw [List.cons_append, vist_go h, vist_go h]; exact vist_append
theorem vist_len {most : Int} : ∀ {xs a : List Int}, (vist most xs a).1.length ≤ xs.length + a.length
  | xs, [] => by simp [vist_nil]
  | xs, n :: a => by
    by_cases h : (xs.length : Int) + 1 = most
    · rw [vist_hit h]; simp
    · rw [vist_go h]
      have := vist_len (most := most) (xs := xs ++ [n]) (a := a)
      simp at this ⊢; omega
/-- .. it takes the first of them. -/
theorem vist_take {most : Int} : ∀ {xs a : List Int}, (xs.length : Int) < most ∨ most ≤ 0 → (vist most xs a).1 = if most ≤ 0 then xs ++ a else (xs ++ a).take most.toNat
  | xs, [], h => by
    rw [vist_nil, List.append_nil]
    split
    · rfl
    · rw [List.take_of_length_le (by omega)]
  | xs, n :: a, h => by
    by_cases h1 : (xs.length : Int) + 1 = most
    · rw [vist_hit h1, if_neg (by omega)]
      have : most.toNat = (xs ++ [n]).length := by simp; omega
      rw [this, show xs ++ n :: a = (xs ++ [n]) ++ a by simp, List.take_left]
    · rw [vist_go h1, vist_take (by simp; omega)]
      simp
end Go.Proofs.YtjekaagjgamfkaaDoor.T
