/- The machine of impl.Maps: what its steps leave. No condition. -/
import Derived.Test.YtammpllfmbmdmaaMk
namespace Go.Proofs.Ytammpllfmbmdmaa
open Go.RowKit

/-- The two maps in memory, spelled out. -/
structure MP (md : Int) (B mb ab : Nat) (w : World) (l0 l1 : List (Int × Int)) (F : Nat → Prop) (p0 p1 : Nat) (F0 F1 : Nat → Prop) : Prop where
  arr : Blk w ab 98 #[.pointer (some ⟨p0, 0, none⟩), .pointer (some ⟨p1, 0, none⟩)]
  m0 : HM md mb w p0 l0 F0
  m1 : HM md mb w p1 l1 F1
  dis : ∀ i, F0 i → ¬ F1 i
  n0 : ¬ F0 ab
  n1 : ¬ F1 ab
  all : ∀ i, F i ↔ i = ab ∨ i = mb ∨ F0 i ∨ F1 i
  base : ∀ i, F i → B ≤ i

section
variable {md : Int} {B mb ab p0 p1 N : Nat} {w w1 : World} {l0 l1 l' : List (Int × Int)} {F F0 F1 F' S : Nat → Prop}

theorem MInv.parts (h : MInv md B mb ab w (l0, l1) F) : ∃ p0 p1 F0 F1, MP md B mb ab w l0 l1 F p0 p1 F0 F1 := by
  obtain ⟨⟨p0, p1, F0, F1, h1, h2, h3, h4, h5, h6, h7⟩, hb⟩ := h
  exact ⟨p0, p1, F0, F1, h1, h2, h3, h4, h5, h6, h7, hb⟩

theorem MP.inv (h : MP md B mb ab w l0 l1 F p0 p1 F0 F1) : MInv md B mb ab w (l0, l1) F := ⟨⟨p0, p1, F0, F1, h.arr, h.m0, h.m1, h.dis, h.n0, h.n1, h.all⟩, h.base⟩

theorem MP.chg (h : MP md B mb ab w l0 l1 F p0 p1 F0 F1) (hc : Chg S w w1) (hd : ∀ i, F i → ¬ S i) : MP md B mb ab w1 l0 l1 F p0 p1 F0 F1 := by
  have hm : ¬ S mb := hd mb ((h.all mb).2 (by simp))
  exact ⟨h.arr.chg hc (hd ab ((h.all ab).2 (by simp))), h.m0.chg hc (fun i hi => hd i ((h.all i).2 (by simp [hi]))) hm, h.m1.chg hc (fun i hi => hd i ((h.all i).2 (by simp [hi]))) hm, h.dis, h.n0, h.n1, h.all, h.base⟩

theorem MP.lt (h : MP md B mb ab w l0 l1 F p0 p1 F0 F1) : ∀ i, F i → i < w.heap.size := fun i hi => by
  rcases (h.all i).1 hi with rfl | rfl | h' | h'
  · exact h.arr.lt
  · exact h.m0.mod.lt
  · exact h.m0.lt i h'
  · exact h.m1.lt i h'

/-- The map 0 has turned. -/
theorem MP.cur0 (h : MP md B mb ab w l0 l1 F p0 p1 F0 F1) (hm : HM md mb w1 p0 l' F') (hF : ∀ i, F' i → F0 i ∨ w.heap.size ≤ i) (hc : Chg F0 w w1) (hB : B ≤ w.heap.size) :
    MInv md B mb ab w1 (l', l1) (fun i => i = ab ∨ i = mb ∨ F' i ∨ F1 i) ∧ (∀ i, (i = ab ∨ i = mb ∨ F' i ∨ F1 i) → F i ∨ w.heap.size ≤ i) ∧ Chg F w w1 := by
  have hal : ab < w.heap.size := h.arr.lt
  refine ⟨⟨⟨p0, p1, F', F1, h.arr.chg hc h.n0, hm, h.m1.chg hc (fun i hi h0 => h.dis i h0 hi) h.m0.nmb, fun i hi h1 => ?_, fun hi => ?_, h.n1, fun i => Iff.rfl⟩, fun i hi => ?_⟩, fun i hi => ?_, hc.mono (fun i _ hi => (h.all i).2 (by simp [hi]))⟩
  · rcases hF i hi with h0 | h0
    · exact h.dis i h0 h1
    · have := h.m1.lt i h1; omega
  · rcases hF ab hi with h0 | h0
    · exact h.n0 h0
    · omega
  · rcases hi with hi | hi | hi | hi
    · exact h.base i ((h.all i).2 (by simp [hi]))
    · exact h.base i ((h.all i).2 (by simp [hi]))
    · rcases hF i hi with h0 | h0
      · exact h.base i ((h.all i).2 (by simp [h0]))
      · omega
    · exact h.base i ((h.all i).2 (by simp [hi]))
  · rcases hi with hi | hi | hi | hi
    · exact Or.inl ((h.all i).2 (by simp [hi]))
    · exact Or.inl ((h.all i).2 (by simp [hi]))
    · rcases hF i hi with h0 | h0
      · exact Or.inl ((h.all i).2 (by simp [h0]))
      · exact Or.inr h0
    · exact Or.inl ((h.all i).2 (by simp [hi]))

theorem MP.cur1 (h : MP md B mb ab w l0 l1 F p0 p1 F0 F1) (hm : HM md mb w1 p1 l' F') (hF : ∀ i, F' i → F1 i ∨ w.heap.size ≤ i) (hc : Chg F1 w w1) (hB : B ≤ w.heap.size) :
    MInv md B mb ab w1 (l0, l') (fun i => i = ab ∨ i = mb ∨ F0 i ∨ F' i) ∧ (∀ i, (i = ab ∨ i = mb ∨ F0 i ∨ F' i) → F i ∨ w.heap.size ≤ i) ∧ Chg F w w1 := by
  have hal : ab < w.heap.size := h.arr.lt
  refine ⟨⟨⟨p0, p1, F0, F', h.arr.chg hc h.n1, h.m0.chg hc (fun i hi h1 => h.dis i hi h1) h.m1.nmb, hm, fun i hi h1 => ?_, h.n0, fun hi => ?_, fun i => Iff.rfl⟩, fun i hi => ?_⟩, fun i hi => ?_, hc.mono (fun i _ hi => (h.all i).2 (by simp [hi]))⟩
  · rcases hF i h1 with h0 | h0
    · exact h.dis i hi h0
    · have := h.m0.lt i hi; omega
  · rcases hF ab hi with h0 | h0
    · exact h.n1 h0
    · omega
  · rcases hi with hi | hi | hi | hi
    · exact h.base i ((h.all i).2 (by simp [hi]))
    · exact h.base i ((h.all i).2 (by simp [hi]))
    · exact h.base i ((h.all i).2 (by simp [hi]))
    · rcases hF i hi with h0 | h0
      · exact h.base i ((h.all i).2 (by simp [h0]))
      · omega
  · rcases hi with hi | hi | hi | hi
    · exact Or.inl ((h.all i).2 (by simp [hi]))
    · exact Or.inl ((h.all i).2 (by simp [hi]))
    · exact Or.inl ((h.all i).2 (by simp [hi]))
    · rcases hF i hi with h0 | h0
      · exact Or.inl ((h.all i).2 (by simp [h0]))
      · exact Or.inr h0

/-- In the place of the map 0 stands a new one. -/
theorem MP.set0 {p' : Nat} (h : MP md B mb ab w l0 l1 F p0 p1 F0 F1) (hn : HNew md mb l' w.heap.size w1 p') (hb : Below w.heap.size w w1) (hB : B ≤ w.heap.size) :
    ∃ F2, MInv md B mb ab (w1.setCell ⟨ab, 0, none⟩ (.pointer (some ⟨p', 0, none⟩))) (l', l1) F2 ∧ (∀ i, F2 i → F i ∨ w.heap.size ≤ i) ∧ Chg F w (w1.setCell ⟨ab, 0, none⟩ (.pointer (some ⟨p', 0, none⟩))) := by
  obtain ⟨F', hm, hF⟩ := hn
  have hal : ab < w.heap.size := h.arr.lt
  have h1 := h.chg (Chg.ofBelow hb (fun _ => False)) (fun _ _ h => h)
  have hs : Chg (· = ab) w1 (w1.setCell ⟨ab, 0, none⟩ (.pointer (some ⟨p', 0, none⟩))) := (Chg.refl (· = ab) w1).setCell (p := ⟨ab, 0, none⟩) (fun _ => rfl) _
  have hmab : mb ≠ ab := h.m0.mod.ne_ h.arr (by decide)
  refine ⟨fun i => i = ab ∨ i = mb ∨ F' i ∨ F1 i, ⟨⟨p', p1, F', F1, h1.arr.set_ 0 _, hm.chg hs (fun i hi e => ?_) hmab, h1.m1.chg hs (fun i hi e => h.n1 (e ▸ hi)) hmab, fun i hi h9 => ?_, fun hi => ?_, h.n1, fun i => Iff.rfl⟩, fun i hi => ?_⟩, fun i hi => ?_, (Chg.ofBelow hb F).trans hs (fun i _ e => (h.all i).2 (Or.inl e))⟩
  · have := hF i hi; omega
  · have := hF i hi
    have := h.m1.lt i h9
    omega
  · have := hF ab hi; omega
  · rcases hi with hi | hi | hi | hi
    · exact h.base i ((h.all i).2 (by simp [hi]))
    · exact h.base i ((h.all i).2 (by simp [hi]))
    · have := hF i hi; omega
    · exact h.base i ((h.all i).2 (by simp [hi]))
  · rcases hi with hi | hi | hi | hi
    · exact Or.inl ((h.all i).2 (by simp [hi]))
    · exact Or.inl ((h.all i).2 (by simp [hi]))
    · exact Or.inr (hF i hi)
    · exact Or.inl ((h.all i).2 (by simp [hi]))

theorem MP.set1 {p' : Nat} (h : MP md B mb ab w l0 l1 F p0 p1 F0 F1) (hn : HNew md mb l' w.heap.size w1 p') (hb : Below w.heap.size w w1) (hB : B ≤ w.heap.size) :
    ∃ F2, MInv md B mb ab (w1.setCell ⟨ab, 1, none⟩ (.pointer (some ⟨p', 0, none⟩))) (l0, l') F2 ∧ (∀ i, F2 i → F i ∨ w.heap.size ≤ i) ∧ Chg F w (w1.setCell ⟨ab, 1, none⟩ (.pointer (some ⟨p', 0, none⟩))) := by
  obtain ⟨F', hm, hF⟩ := hn
  have hal : ab < w.heap.size := h.arr.lt
  have h1 := h.chg (Chg.ofBelow hb (fun _ => False)) (fun _ _ h => h)
  have hs : Chg (· = ab) w1 (w1.setCell ⟨ab, 1, none⟩ (.pointer (some ⟨p', 0, none⟩))) := (Chg.refl (· = ab) w1).setCell (p := ⟨ab, 1, none⟩) (fun _ => rfl) _
  have hmab : mb ≠ ab := h.m0.mod.ne_ h.arr (by decide)
  refine ⟨fun i => i = ab ∨ i = mb ∨ F0 i ∨ F' i, ⟨⟨p0, p', F0, F', h1.arr.set_ 1 _, h1.m0.chg hs (fun i hi e => h.n0 (e ▸ hi)) hmab, hm.chg hs (fun i hi e => ?_) hmab, fun i hi h9 => ?_, h.n0, fun hi => ?_, fun i => Iff.rfl⟩, fun i hi => ?_⟩, fun i hi => ?_, (Chg.ofBelow hb F).trans hs (fun i _ e => (h.all i).2 (Or.inl e))⟩
  · have := hF i hi; omega
  · have := hF i h9
    have := h.m0.lt i hi
    omega
  · have := hF ab hi; omega
  · rcases hi with hi | hi | hi | hi
    · exact h.base i ((h.all i).2 (by simp [hi]))
    · exact h.base i ((h.all i).2 (by simp [hi]))
    · exact h.base i ((h.all i).2 (by simp [hi]))
    · have := hF i hi; omega
  · rcases hi with hi | hi | hi | hi
    · exact Or.inl ((h.all i).2 (by simp [hi]))
    · exact Or.inl ((h.all i).2 (by simp [hi]))
    · exact Or.inl ((h.all i).2 (by simp [hi]))
    · exact Or.inr (hF i hi)
end
end Go.Proofs.Ytammpllfmbmdmaa
