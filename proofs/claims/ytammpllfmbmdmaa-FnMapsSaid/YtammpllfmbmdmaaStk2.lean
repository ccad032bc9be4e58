/- The walks of SliceStack[int]: Pop, and Peek and Pop on an empty stack, which panic. -/
import Derived.Test.YtammpllfmbmdmaaStk
import Derived.RegionDies
namespace Go.Proofs.Ytammpllfmbmdmaa
open Go.RowKit

/-- It panics, and no old block has changed. -/
def PanicsIn (w : World) (e : Ending) (w' : World) : Prop := (∃ u pv, e = .panicked [{ v := .iface u pv, recovered := false }]) ∧ Chg (fun _ => False) w w'

set_option maxHeartbeats 1000000 in
set_option maxRecDepth 100000 in
theorem stk_peek_none (B sv : Nat) (v : Value) (w : World) (h : Stk w B sv v []) :
    Calls Try.prog 39 #[.pointer (some ⟨sv, 0, none⟩)] w (PanicsIn w) := by
  obtain ⟨hb, hown⟩ := h
  obtain ⟨A, c, rfl, hr⟩ := own_reads hown
  have hc : w.cell? ⟨sv, 0, none⟩ = some (.slice A 0 c) := by rw [hb.cell]; rfl
  clear hb hown hr
  have hidx := index_neg A c
  unfold boundsValue at hidx
  have hw1 : IntKind.i64.wrap (-1) = -1 := by rw [IntKind.wrap_i64]; omega
  go_enter Try.func39, Try.ntmps39
  go_wp2
  go_region_dies
  all_goals exact ⟨rfl, ⟨_, _, rfl⟩, (Chg.refl _ _).drew⟩

set_option maxHeartbeats 1000000 in
set_option maxRecDepth 100000 in
theorem stk_pop_none (B sv : Nat) (v : Value) (w : World) (h : Stk w B sv v []) :
    Calls Try.prog 38 #[.pointer (some ⟨sv, 0, none⟩)] w (PanicsIn w) := by
  obtain ⟨hb, hown⟩ := h
  obtain ⟨A, c, rfl, hr⟩ := own_reads hown
  have hc : w.cell? ⟨sv, 0, none⟩ = some (.slice A 0 c) := by rw [hb.cell]; rfl
  clear hb hown hr
  have hidx := index_neg A c
  unfold boundsValue at hidx
  go_enter Try.func38, Try.ntmps38
  go_wp2
  exact ⟨rfl, ⟨_, _, rfl⟩, Chg.refl _ _⟩

/-- A row that has lost its last cell's meaning. -/
theorem own_shrink {w : World} {base g cap n : Nat} {xs : List Value} {x y : Value} (h : w.ownsRow base 3 1 (.slice (some ⟨g, 0, none⟩) (n + 1) cap) (n + 1) (xs ++ [x])) (hl : xs.length = n) :
    (w.setCell ⟨g, n, none⟩ y).ownsRow base 3 1 (.slice (some ⟨g, 0, none⟩) n cap) n xs := by
  obtain ⟨_, h2⟩ := h
  rcases h2 with ⟨h3, _⟩ | ⟨g', cap', cur, hv, hb, hh, hc, hm, hs, ht⟩
  · cases h3
  · injection hv with e1 _ e3
    injection e1 with e1
    injection e1 with e1
    subst e1; subst e3
    have hbl : Blk w g 3 cur := hh
    refine ⟨by omega, .inr ⟨g, cap, cur.setIfInBounds n y, rfl, hb, hbl.set_ n y, by omega, hm, by simpa using hs, ?_⟩⟩
    rw [Nat.mul_one] at ht ⊢
    rw [Array.toList_setIfInBounds, List.take_set_of_le (Nat.le_refl _)]
    have h4 : (cur.toList.take (n + 1)).take n = (xs ++ [x]).take n := by rw [ht]
    rw [List.take_take, Nat.min_eq_left (by omega), List.take_left' hl] at h4
    exact h4

set_option maxHeartbeats 1000000 in
set_option maxRecDepth 100000 in
theorem stk_pop (B sv : Nat) (v : Value) (l : List Int) (x : Int) (w : World) (h : Stk w B sv v (l ++ [x])) (hl : l.length ≤ 1099511627776) :
    Calls Try.prog 38 #[.pointer (some ⟨sv, 0, none⟩)] w fun e w' => e = .returned (.int .i64 x) ∧ ∃ v', Stk w' B sv v' l ∧ v'.ownBlock = v.ownBlock ∧ Chg (fun k => k = sv ∨ v.ownBlock = some k) w w' := by
  obtain ⟨hb, hown⟩ := h
  have hlen : (l ++ [x]).length = l.length + 1 := by simp
  have hints : ints (l ++ [x]) = ints l ++ [.int .i64 x] := List.map_append
  rw [hlen, hints] at hown
  obtain ⟨g, cap, rfl, hg, hlt⟩ := hown.form (by omega)
  obtain ⟨n, hn⟩ : ∃ n, n = l.length := ⟨_, rfl⟩
  rw [← hn] at hown hl hb ⊢
  have hcap := own_cap hown
  unfold maxLen at hcap
  obtain ⟨hcap1, hcap2⟩ := hcap
  have hx : w.cell? ⟨g, n, none⟩ = some (.int .i64 x) := by
    rw [hown.cellAt n (by omega)]
    rw [List.getElem?_append_right (by simp [hn])]
    simp [hn]
  have hfx := hown.frozenAt n
  have hc : w.cell? ⟨sv, 0, none⟩ = some (.slice (some ⟨g, 0, none⟩) (n + 1) cap) := by rw [hb.cell]; rfl
  have hf := hb.frozen 0
  have hgs : g ≠ sv := fun e => by
    obtain ⟨cs, hcs⟩ := own_blk hown rfl
    exact hcs.ne_ hb (by decide) e
  have HB := hide hb
  have HOWN := hide hown
  have HN := hide hn
  clear hb hown hn hlen hints
  go_enter Try.func38, Try.ntmps38
  go_wp2
  go_ret
  have hsg : sv ≠ g := fun e => hgs e.symm
  refine ⟨rfl, .slice (some ⟨g, 0, none⟩) n cap, ⟨(HB.out.far (p := ⟨g, n, none⟩) hsg _).set_ 0 _, ?_⟩, rfl, ?_⟩
  · rw [← HN.out]
    exact ownsRow_setCell_other (own_shrink HOWN.out (by simp [HN.out])) (by simp [Value.ownBlock]; exact hgs) _
  · exact ((Chg.refl (fun k => k = sv ∨ (Value.slice (some ⟨g, 0, none⟩) (n + 1) cap).ownBlock = some k) w).setCell (p := ⟨g, n, none⟩) (fun _ => Or.inr rfl) _).setCell (p := ⟨sv, 0, none⟩) (fun _ => Or.inl rfl) _
end Go.Proofs.Ytammpllfmbmdmaa
