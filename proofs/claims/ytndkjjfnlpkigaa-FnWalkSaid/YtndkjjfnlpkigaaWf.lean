/- The walk of the closure of impl.Walk, which notes a node in the captured order. -/
import Derived.Test.YtndkjjfnlpkigaaGr
import Derived.Deep.RegionLaw
import Derived.Deep.QuietTactic
namespace Go.Proofs.Ytndkjjfnlpkigaa
open Go.RowKit

/-- The variable in block O holds a slice of the call's own with the nodes ord. -/
def OrderVar (w : World) (B O : Nat) (ord : List Int) : Prop :=
  ∃ v, Blk w O 26 #[v] ∧ w.ownsRow B 3 1 v ord.length (ints ord) ∧ B ≤ O

/-- A row of ints among the call's own blocks. -/
def RowAt (w : World) (B : Nat) (k : Nat) : Prop := B ≤ k ∧ ∃ cs, Blk w k 3 cs

theorem own_rowAt {w : World} {B n : Nat} {v : Value} {xs : List Value} (h : w.ownsRow B 3 1 v n xs) {g : Nat} (hg : v.ownBlock = some g) : RowAt w B g := by
  rcases h.2 with ⟨rfl, _⟩ | ⟨g', cap, cur, rfl, hb, hh, _⟩
  · cases hg
  · have : g' = g := by simpa [Value.ownBlock] using hg
    subst this
    exact ⟨hb, cur, hh⟩

theorem OrderVar.chg {w w' : World} {B O : Nat} {ord : List Int} {S : Nat → Prop} (h : OrderVar w B O ord) (hc : Chg S w w') (hO : ¬ S O) (hR : ∀ k cs, Blk w k 3 cs → ¬ S k) : OrderVar w' B O ord := by
  obtain ⟨v, hb, hown, hB⟩ := h
  refine ⟨v, hb.chg hc hO, ?_, hB⟩
  obtain ⟨hl, h2⟩ := hown
  refine ⟨hl, ?_⟩
  rcases h2 with h2 | ⟨g, cap, cur, hv, hbg, hh, r⟩
  · exact .inl h2
  · have hbl : Blk w g 3 cur := hh
    exact .inr ⟨g, cap, cur, hv, hbg, (hbl.chg hc (hR g cur hbl)), r⟩

set_option maxHeartbeats 1000000 in
theorem wf_any (B O T : Nat) (ord : List Int) (u to : Int) (w : World) (h : OrderVar w B O ord) (ht : w.cell? ⟨T, 0, none⟩ = some (.int .i64 to)) (hTO : T < B) (hn : ord.length ≤ 1099511627776) :
    Calls Try.prog 20 #[tval u, .pointer (some ⟨O, 0, none⟩), .pointer (some ⟨T, 0, none⟩)] w fun e w' => e = .returned (.bool (u == to)) ∧ OrderVar w' B O (ord ++ [u]) ∧ Chg (fun k => k = O ∨ RowAt w B k) w w' := by
  obtain ⟨v, hb, hown, hBO⟩ := h
  obtain ⟨i0, hi, hz0, hz1, hz2⟩ := info_parts info3b
  have hta := assert_int u
  have hc0 : w.cell? ⟨O, 0, none⟩ = some v := by rw [hb.cell]; rfl
  have hf0 := hb.frozen 0
  have hOlt := hb.lt
  have hTlt := World.block_lt_of_cell? w _ ht
  have hvO : v.ownBlock ≠ some O := by
    intro e
    obtain ⟨_, cs, hcs⟩ := own_rowAt hown e
    exact (hcs.ne_ hb (by decide)) rfl
  have hvT : v.ownBlock ≠ some T := fun e => by have := (hown.lt T e).1; omega
  have HB := hide hb
  have HVO := hide hvO
  have HVT := hide hvT
  clear hb
  unfold tval
  go_enter Try.func20, Try.ntmps20
  go_wp2_with fail
  have hc1 : ∀ o, (w.alloc o).cell? ⟨O, 0, none⟩ = some v := fun o => by rw [World.cell?_alloc_lt _ _ _ hOlt]; exact hc0
  go_region_law
    ((first
      | (refine step_append1 (by rfl) (.tmp 5) (.tmp 8) 26 (by rfl) B 3 i0 (.int .i64 0) 8 Try.underlying26 hi hz0 hz1 hz2 rfl v ord.length (ints ord) (by rfl) ((hown.alloc _).drew) _ 1 (.int .i64 u) (by rfl) ?_ rfl (by unfold maxLen; omega) (by omega) (by simp; omega) ?_
         · (simp; done)
         intro gA cA wA hA1 hA2 hG3 hA4 hA5
         have hk0 : wA.cell? ⟨O, 0, none⟩ = some v := by
           refine (hG3.cell_far _ ?_ ?_).trans ?_
           · (simp; try omega)
           · exact fun e => HVO.out e.symm
           · (rw [World.cell?_drew]; exact hc1 _)
         have hk1 : wA.frozen? ⟨O, 0, none⟩ = false := by
           refine (hG3.frozen_far _ ?_ ?_).trans ?_
           · (simp; try omega)
           · exact fun e => HVO.out e.symm
           · (rw [World.frozen?_drew, World.frozen?_alloc_old _ _ _ (Nat.ne_of_lt hOlt)]; exact hf0))
      | fail))
  all_goals
    have HO : Blk (wA.setCell ⟨O, 0, none⟩ (.slice (some ⟨gA, 0, none⟩) (ord.length + 1) cA)) O 26 #[.slice (some ⟨gA, 0, none⟩) (ord.length + 1) cA] := by
      have h1 : Blk wA O 26 #[v] := by
        have h2 : wA.heap[O]? = (w.alloc (.cells #[.int .i64 u] 3)).drew.heap[O]? := hG3.block O (by simp; omega) (fun e => HVO.out e.symm)
        exact h2.trans (HB.out.alloc _)
      exact h1.set_ 0 _
    have hgO : gA ≠ O := by
      rcases hA4 with h | h
      · intro e; exact HVO.out (by rw [h, e])
      · intro e
        have h' : gA = w.heap.size + 1 := by simpa using h
        omega
    have HOW : Hid (OrderVar (wA.setCell ⟨O, 0, none⟩ (.slice (some ⟨gA, 0, none⟩) (ord.length + 1) cA)) B O (ord ++ [u])) := by
      refine ⟨_, HO, ?_, hBO⟩
      have e1 : (ord ++ [u]).length = ord.length + 1 := by simp
      have e2 : ints (ord ++ [u]) = ints ord ++ [.int .i64 u] := List.map_append
      rw [e1, e2]
      exact ownsRow_setCell_other hA1 (by simp [Value.ownBlock]; exact hgO) _
    have HCG : Hid (Chg (fun k => k = O ∨ RowAt w B k) w (wA.setCell ⟨O, 0, none⟩ (.slice (some ⟨gA, 0, none⟩) (ord.length + 1) cA))) := by
      have h1 : Chg (fun k => k = O ∨ RowAt w B k) w wA := (((Chg.refl (fun k => k = O ∨ RowAt w B k) w).alloc (.cells #[.int .i64 u] 3)).drew).trans (Chg.ofGrown (S := fun k => v.ownBlock = some k) hG3 (fun g hg _ => hg)) (fun i hi hs => Or.inr (own_rowAt hown hs))
      exact h1.setCell (p := ⟨O, 0, none⟩) (fun _ => Or.inl rfl) _
    have hT2 : (wA.setCell ⟨O, 0, none⟩ (.slice (some ⟨gA, 0, none⟩) (ord.length + 1) cA)).cell? ⟨T, 0, none⟩ = some (.int .i64 to) := by
      rw [World.cell?_setCell_other _ _ _ _ (by first | (simp; done) | (simp; omega))]
      refine (hG3.cell_far _ (by simp; omega) (fun e => HVT.out e.symm)).trans ?_
      rw [World.cell?_drew, World.cell?_alloc_lt _ _ _ hTlt]; exact ht
    clear hA1 hA2 hG3 hA4 hA5 hk0 hk1 HO ht hown hc0 hf0 hc1
    generalize wA.setCell ⟨O, 0, none⟩ (.slice (some ⟨gA, 0, none⟩) (ord.length + 1) cA) = W at *
    go_wp2
    go_quiet (fail)
    go_wp2
    go_ret
    exact ⟨rfl, HOW.out, HCG.out.drewN _⟩
end Go.Proofs.Ytndkjjfnlpkigaa
