/- The machine of impl.Maps: two hash maps behind a closure. No condition. -/
import Derived.Test.YtammpllfmbmdmaaHm8
import Derived.Test.YtammpllfmbmdmaaQd
namespace Go.Proofs.Ytammpllfmbmdmaa
open Go.RowKit

abbrev Two := List (Int × Int) × List (Int × Int)

/-- The keys of a map, in order. -/
def keysL (l : List (Int × Int)) : List Int := (l.map (·.1)).mergeSort (fun x y => decide (x ≤ y))

/-- The sum of the hashes, as the machine reckons it. -/
def hashW (md : Int) (h : Int) (q : Int × Int) : Int := IntKind.i64.wrap (h + IntKind.i64.wrap (hs md q.1 + hs md q.2))
def hashL (md : Int) (l : List (Int × Int)) : Int := l.foldl (hashW md) 0

/-- A step on the map c beside the map o: both behind it, and the answer. -/
def stpM (md : Int) (c o : List (Int × Int)) (s : StepD) : Two × AnsD :=
  if s.what = 0 then ((putL c s.key s.value, o), zeroAns)
  else if s.what = 1 then ((c, o), ⟨(c.lookup s.key).getD (-1), (c.lookup s.key).isSome, [], false⟩)
  else if s.what = 2 then ((delL c s.key, o), zeroAns)
  else if s.what = 3 then ((c, o), ⟨(c.length : Int), false, [], false⟩)
  else if s.what = 4 then ((c, c), zeroAns)
  else if s.what = 5 then ((c, o), ⟨0, eqA c o, [], false⟩)
  else if s.what = 6 then ((putAll c o, o), zeroAns)
  else if s.what = 7 then ((c, o), ⟨hashL md c, false, [], false⟩)
  else if s.what = 8 then ((c, o), ⟨0, false, keysL c, false⟩)
  else ((c, o), zeroAns)

def stepM (md : Int) (x : Two) (s : StepD) : Two × AnsD :=
  if s.which = 0 then stpM md x.1 x.2 s
  else if s.which = 1 then (((stpM md x.2 x.1 s).1.2, (stpM md x.2 x.1 s).1.1), (stpM md x.2 x.1 s).2)
  else (x, zeroAns)

/-- The two maps in memory: the array of their pointers in block ab, the modulus in block mb. -/
structure MInv (md : Int) (B mb ab : Nat) (w : World) (x : Two) (F : Nat → Prop) : Prop where
  ex : ∃ p0 p1 F0 F1, Blk w ab 98 #[.pointer (some ⟨p0, 0, none⟩), .pointer (some ⟨p1, 0, none⟩)] ∧ HM md mb w p0 x.1 F0 ∧ HM md mb w p1 x.2 F1 ∧ (∀ i, F0 i → ¬ F1 i) ∧ ¬ F0 ab ∧ ¬ F1 ab ∧ (∀ i, F i ↔ i = ab ∨ i = mb ∨ F0 i ∨ F1 i)
  base : ∀ i, F i → B ≤ i

def machM (md : Int) (B mb ab : Nat) : Mach Two where
  B := B
  id := 70
  caps := #[.pointer (some ⟨ab, 0, none⟩)]
  enters := Try.call70
  Inv := MInv md B mb ab
  stp := fun x s => ((stepM md x s).1, some (stepM md x s).2)
  good := fun x _ => x.1.length ≤ 549755813888 ∧ x.2.length ≤ 549755813888
  keep := fun {w w' x F S} h hc hd => by
    obtain ⟨⟨p0, p1, F0, F1, h1, h2, h3, h4, h5, h6, h7⟩, hb⟩ := h
    have hm : ¬ S mb := hd mb ((h7 mb).2 (by simp))
    exact ⟨⟨p0, p1, F0, F1, h1.chg hc (hd ab ((h7 ab).2 (by simp))), h2.chg hc (fun i hi => hd i ((h7 i).2 (by simp [hi]))) hm, h3.chg hc (fun i hi => hd i ((h7 i).2 (by simp [hi]))) hm, h4, h5, h6, h7⟩, hb⟩
  lt := fun {w x F} h i hi => by
    obtain ⟨⟨p0, p1, F0, F1, h1, h2, h3, h4, h5, h6, h7⟩, hb⟩ := h
    refine ⟨hb i hi, ?_⟩
    rcases (h7 i).1 hi with rfl | rfl | h | h
    · exact h1.lt
    · exact h2.mod.lt
    · exact h2.lt i h
    · exact h3.lt i h
end Go.Proofs.Ytammpllfmbmdmaa
