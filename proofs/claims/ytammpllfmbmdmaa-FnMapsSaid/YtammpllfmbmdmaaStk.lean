/- The walks of SliceStack[int]: Push, Len; a stack in memory. -/
import Derived.Test.YtammpllfmbmdmaaApp
import Derived.Laws.Panics
namespace Go.Proofs.Ytammpllfmbmdmaa
open Go.RowKit

/-- A stack of ints in variable sv: its row is the call's own. -/
def Stk (w : World) (B sv : Nat) (v : Value) (l : List Int) : Prop := Blk w sv 59 #[v] ∧ w.ownsRow B 3 1 v l.length (ints l)

theorem stk_len (B sv : Nat) (v : Value) (l : List Int) (w : World) (h : Stk w B sv v l) :
    Calls Try.prog 40 #[.pointer (some ⟨sv, 0, none⟩)] w fun e w' => e = .returned (.int .i64 l.length) ∧ w' = w := by
  obtain ⟨hb, hown⟩ := h
  obtain ⟨A, c, rfl, _⟩ := own_reads hown
  have hc : w.cell? ⟨sv, 0, none⟩ = some (.slice A l.length c) := by rw [hb.cell]; rfl
  clear hb hown
  go_enter Try.func40, Try.ntmps40
  go_wp2
  go_ret
  exact ⟨rfl, rfl⟩

set_option maxHeartbeats 1000000 in
theorem stk_push (B sv : Nat) (v : Value) (l : List Int) (x : Int) (w : World) (h : Stk w B sv v l) (hl : l.length ≤ 1099511627776) (hB : B ≤ w.heap.size) :
    Calls Try.prog 37 #[.pointer (some ⟨sv, 0, none⟩), .int .i64 x] w fun e w' => e = .returned (.tuple #[]) ∧ ∃ v', Stk w' B sv v' (l ++ [x]) ∧ (v'.ownBlock = v.ownBlock ∨ v'.ownBlock = some (w.heap.size + 1)) ∧ Chg (fun k => k = sv ∨ v.ownBlock = some k) w w' := by
  obtain ⟨hb, hown⟩ := h
  obtain ⟨i0, hi, hz0, hz1, hz2⟩ := info_parts info3
  have hc : w.cell? ⟨sv, 0, none⟩ = some v := by rw [hb.cell]; rfl
  have hf := hb.frozen 0
  have hlt := hb.lt
  have hvs : v.ownBlock ≠ some sv := fun e => by
    obtain ⟨cs, hcs⟩ := own_blk hown e
    exact hcs.ne_ hb (by decide) rfl
  have HB := hide hb
  have HVS := hide hvs
  obtain ⟨n, hn⟩ : ∃ n, n = l.length := ⟨_, rfl⟩
  rw [← hn] at hown hl
  have HN := hide hn
  clear hb hvs hn
  go_enter Try.func37, Try.ntmps37
  go_wp2_with (at_builtin; go_must (refine wpList_append1 rfl _ _ 27 rfl B 3 i0 (.int .i64 0) 8 Try.underlying27 hi hz0 hz1 hz2 rfl v n _ rfl (hown.alloc _) _ 1 (.int .i64 x) rfl (cell_one_new w (.int .i64 x) 3 0 _ rfl) rfl (by unfold maxLen; omega) (by omega) (by simp; omega) ?_); intro g c1 w1 hO _ hG hat _; have hc1 : w1.cell? ⟨sv, 0, none⟩ = some v := ((hG.cell_far _ (by simp; omega) (fun e => HVS.out e.symm)).trans (by rw [World.cell?_alloc_lt _ _ _ hlt]; exact hc)); have hf1 : w1.frozen? ⟨sv, 0, none⟩ = false := ((hG.frozen_far _ (by simp; omega) (fun e => HVS.out e.symm)).trans (by rw [World.frozen?_alloc_old _ _ _ (Nat.ne_of_lt hlt)]; exact hf)); have HO := hide hO; have HG := hide hG; have HAT := hide hat; clear hO hG hat)
  go_end0
  have hgs : g ≠ sv := by
    rcases HAT.out with h | h
    · exact fun e => HVS.out (by rw [h, e])
    · intro e
      rw [World.size_alloc] at h
      omega
  have hb1 : Blk w1 sv 59 #[v] := (HG.out.block sv (by simp; omega) (fun e => HVS.out e.symm)).trans (HB.out.alloc _)
  refine ⟨rfl, .slice (some ⟨g, 0, none⟩) (n + 1) c1, ⟨hb1.set_ 0 _, ?_⟩, ?_, ?_⟩
  · have e1 : (l ++ [x]).length = n + 1 := by rw [List.length_append, HN.out]; rfl
    have e2 : ints (l ++ [x]) = ints l ++ [.int .i64 x] := List.map_append
    rw [e1, e2]
    exact ownsRow_setCell_other HO.out (by simp [Value.ownBlock]; exact hgs) _
  · rcases HAT.out with h | h
    · exact Or.inl (by rw [h]; rfl)
    · rw [World.size_alloc] at h
      exact Or.inr (by rw [h]; rfl)
  · have h1 : Chg (fun k => k = sv ∨ v.ownBlock = some k) w w1 := ((Chg.refl (fun k => k = sv ∨ v.ownBlock = some k) w).alloc _).trans (Chg.ofGrown (S := fun k => v.ownBlock = some k) HG.out (fun g hg _ => hg)) (fun i _ h => Or.inr h)
    exact h1.setCell (p := ⟨sv, 0, none⟩) (fun _ => Or.inl rfl) _

set_option maxHeartbeats 1000000 in
theorem stk_peek (B sv : Nat) (v : Value) (l : List Int) (x : Int) (w : World) (h : Stk w B sv v (l ++ [x])) (hl : l.length ≤ 1099511627776) :
    Calls Try.prog 39 #[.pointer (some ⟨sv, 0, none⟩)] w fun e w' => e = .returned (.int .i64 x) ∧ ∃ q, w' = w.drewN q := by
  obtain ⟨hb, hown⟩ := h
  obtain ⟨A, c, rfl, hr⟩ := own_reads hown
  have hlen : (l ++ [x]).length = l.length + 1 := by simp
  rw [hlen] at hr hb
  have hc : w.cell? ⟨sv, 0, none⟩ = some (.slice A (l.length + 1) c) := by rw [hb.cell]; rfl
  obtain ⟨ad, u, rfl, _, hx, hcx⟩ := hr.at_ (show l.length < l.length + 1 by omega)
  have hu : u = .int .i64 x := by simpa using hx.symm
  subst hu
  generalize l.length = n at *
  clear hb hown hr hx hlen
  go_enter Try.func39, Try.ntmps39
  go_wp2
  go_quiet (fail)
  go_wp2
  go_ret
  exact ⟨rfl, _, rfl⟩

theorem bounds_neg (w : World) : (boundsPanic IntKind.i64 (-1) 0 BoundsCode.index : Sem Value).run Try.prog w = .halt (.panic (boundsValue Try.prog (-1) 0 true 0)) w := by
  unfold boundsPanic boundsValue
  simp [runtimePanic, goPanic, go_sem]
  try decide
theorem index_neg (A : Option Addr) (c : Nat) (w : World) : (Instr.indexAt 27 (.slice A 0 c) (.int .i64 (-1))).run Try.prog w = .halt (.panic (boundsValue Try.prog (-1) 0 true 0)) w := by
  have h : Try.prog.underlying 27 = some (.slice (Try.prog.elem 27)) := by kernel_rfl
  cases A with
  | some a =>
    rw [run_indexAt_slice (h := h), if_neg (by omega)]
    exact bounds_neg w
  | none =>
    have e : (Instr.indexAt 27 (.slice none 0 c) (.int .i64 (-1))).run Try.prog w = (boundsPanic IntKind.i64 (-1) 0 .index).run Try.prog w := by
      simp [Instr.indexAt, run_underlying h, asIntOf]
    rw [e]
    exact bounds_neg w

end Go.Proofs.Ytammpllfmbmdmaa
