/- What impl.Maps visits the keys with. Under sizes alone. -/
import Derived.Test.YtammpllfmbmdmaaMd
import Derived.Test.YtammpllfmbmdmaaApp
namespace Go.Proofs.Ytammpllfmbmdmaa
open Go.RowKit

structure KeyJ (B av : Nat) (S : List (Int × Int)) (w : World) (K : Nat → Prop) : Prop where
  ex : ∃ v, Blk w av 46 #[.int .i64 0, .bool false, v, .bool false] ∧ w.ownsRow B 3 1 v S.length (ints (S.map (·.1))) ∧ (∀ i, K i ↔ i = av ∨ v.ownBlock = some i)
  le : B ≤ w.heap.size

def keyVis (B av : Nat) : Vis where
  id := 80
  caps := #[.pointer (some ⟨av, 0, none⟩)]
  N := fun _ => False
  J := fun w S K => KeyJ B av S w K
  stop := fun _ => false
  keep := fun {w w' S K X} h hc hX => by
    obtain ⟨⟨v, h1, h2, h3⟩, hl⟩ := h
    exact ⟨⟨v, h1.chg hc (hX av (Or.inl ((h3 av).2 (Or.inl rfl)))), own_chg h2 hc (fun g hg => hX g (Or.inl ((h3 g).2 (Or.inr hg)))), h3⟩, Nat.le_trans hl hc.size⟩
  lt := fun {w S K} h i hi => by
    obtain ⟨⟨v, h1, h2, h3⟩, hl⟩ := h
    rcases hi with hi | hi
    · rcases (h3 i).1 hi with rfl | h
      · exact h1.lt
      · exact (h2.lt i h).2
    · exact hi.elim
  enters := fun args w => by go_simp

set_option linter.unusedVariables false in
set_option maxHeartbeats 2000000 in
set_option maxRecDepth 100000 in
theorem key1_any (B av : Nat) (l : List (Int × Int)) (w0 : World) (K0 : Nat → Prop) (hl : l.length ≤ 549755813888) : (keyVis B av).Ok l w0 K0 := by
  intro S q K w hn hm _ _ hJ
  have hsz : (S ++ [q]).length ≤ l.length := hn.length_le_of_subset (fun p hp => hm p hp)
  simp only [List.length_append, List.length_singleton] at hsz
  obtain ⟨⟨v, h1, h2, h3⟩, hB⟩ := hJ
  obtain ⟨i0, hi, hz0, hz1, hz2⟩ := info_parts info3
  have c2 : w.cell? ⟨av, 2, none⟩ = some v := by rw [h1.cell]; rfl
  have f2 := h1.frozen 2
  have hav := h1.lt
  obtain ⟨A, cp, hvs, _⟩ := own_reads h2
  subst hvs
  have H1 := hide h1
  have H2 := hide h2
  have H3 := hide h3
  clear h1 h2 h3 hn hm
  show Calls Try.prog 80 #[.int .i64 q.1, .int .i64 q.2, .pointer (some ⟨av, 0, none⟩)] w _
  go_enter Try.func80, Try.ntmps80
  go_wp2_with (at_builtin; go_must (refine wpList_append1 rfl _ _ 27 rfl B 3 i0 (.int .i64 0) 8 Try.underlying27 hi hz0 hz1 hz2 rfl (.slice A S.length cp) S.length (ints (S.map (·.1))) rfl (H2.out.alloc _) ⟨w.heap.size, 0, none⟩ 1 (.int .i64 q.1) rfl ((Blk.new w 3 #[.int .i64 q.1]).cell 0) rfl (by unfold maxLen; omega) (by omega) (by simp; omega) ?_))
  intro g c' w2 ho _ hg hat hlt
  have hv2 : (Value.slice A S.length cp).ownBlock ≠ some av := fun e => by
    obtain ⟨cs, hcs⟩ := own_blk H2.out e
    exact hcs.ne_ H1.out (by decide) rfl
  have hb2 : Blk w2 av 46 #[.int .i64 0, .bool false, .slice A S.length cp, .bool false] := (hg.block av (by simp; omega) (fun e => hv2 e.symm)).trans (H1.out.alloc _)
  have f2' := hb2.frozen 2
  have c2' : w2.cell? ⟨av, 2, none⟩ = some (.slice A S.length cp) := by rw [hb2.cell]; rfl
  have HB2 := hide hb2
  have HO := hide ho
  have HG := hide hg
  have HAT := hide hat
  have hgav : Hid (g ≠ av) := fun e => by
    rcases HAT.out with h | h
    · exact hv2 (by rw [h, e])
    · omega
  clear hb2 ho hg hat
  go_wp2
  go_ret
  refine ⟨rfl, fun i => i = av ∨ i = g, ⟨⟨.slice (some ⟨g, 0, none⟩) (S.length + 1) c', HB2.out.set_ 2 _, ?_, fun i => by simp [Value.ownBlock, eq_comm]⟩, ?_⟩, ?_, ?_⟩
  · have e1 : (S ++ [q]).length = S.length + 1 := by simp
    have e2 : ints ((S ++ [q]).map (·.1)) = ints (S.map (·.1)) ++ [.int .i64 q.1] := by simp [ints]
    rw [e1, e2]
    have := ownsRow_setCell_other HO.out (a := ⟨av, 2, none⟩) (by simpa [Value.ownBlock] using hgav.out) (.slice (some ⟨g, 0, none⟩) (S.length + 1) c')
    simpa [ints] using this
  · have := HG.out.size
    simp [World.setCell] at this ⊢
    omega
  · rintro i (rfl | rfl)
    · exact Or.inl ((H3.out _).2 (Or.inl rfl))
    · rcases HAT.out with h | h
      · exact Or.inl ((H3.out _).2 (Or.inr h))
      · exact Or.inr (by omega)
  · refine (((Chg.refl K w).alloc _).trans (Chg.ofGrown (S := fun i => (Value.slice A S.length cp).ownBlock = some i) HG.out (fun g hg _ => hg)) (fun i _ h => (H3.out i).2 (Or.inr h))).setCell (p := ⟨av, 2, none⟩) (fun _ => (H3.out _).2 (Or.inl rfl)) _
end Go.Proofs.Ytammpllfmbmdmaa
