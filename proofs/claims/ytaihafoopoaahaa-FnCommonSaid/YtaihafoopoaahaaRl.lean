/- A range over a function whose rounds are known by their number, the body never leaving early: the body may write what the iterator goes on to read. The walk of slices.Backward. No condition beyond a bound on the length. -/
import Derived.Test.YtaihafoopoaahaaSu3
import Derived.RangeFuncNested
import Derived.RangeFuncBound
import Derived.RangeFuncCalls
import Derived.RangeFuncLeaves
import Derived.Shelf.Abstract
import Derived.Shelf.RegionOpen
import Derived.OwnWalkIn
import Derived.TacticsInMore
import Derived.LoopNIn
import Derived.LoopIn
namespace Go.Proofs.Ytaihafoopoaahaa
open Go.RowKit Go.Shelf

/-- How a round's body is left: it goes on, other objects stand, the next state holds. -/
def roundQ (B : Nat) (I : Nat → World → Prop) (r : Nat) (W : World) : Exit → Act → World → Prop
  | .normal, _, W' => KeepsFrom B W W' ∧ I (r + 1) W'
  | _, _, _ => False

theorem range_rounds {F : Fence} {n : Nat} {P : Program} {g : Operand} {ps : Array Tmp} {assign body : Code} {Q : Exit → Act → World → Prop} {a : Act} {w : World}
    (hro : F.round = none) (h1 : 1 ≤ n) {gf : Nat} {lb : Array Value} (hg : a.eval g = .func (.func gf) #[] lb) (hFg : F.fn gf) (eg : ∀ args w, (callFunc gf args).run P w = .ok (.enter gf args) w)
    (xs : Nat → Array Value) (N : Nat) (hps : ∀ r, (xs r).size = ps.size) (I : Nat → World → Prop) (hI : OwnFrom w.heap.size I) (h0 : I 0 w)
    (hseq : ∀ (l : Nat) (J : Nat → World → Prop) (W : World), (∀ r V, J r V → I r V) →
      (∀ r V, r < N → J r V → YieldAt F (n - 1 - 1) P l (xs r) V fun e V' => e = .returned (.bool true) ∧ J (r + 1) V') → J 0 W →
      CallsIn F (n - 1) P gf (#[.func (.yield l) #[] #[]] ++ lb) W fun e V' => (∃ v, e = .returned v) ∧ J N V')
    (hround : ∀ (l r : Nat) (W : World), r < N → I r W →
      assign.wpIn (F.inRound l) (n - 1 - 1) P (Exit.then (fun b V => V = W ∧ ∀ Y, I r Y → body.wpIn (F.inRound l) (n - 1 - 1) P (roundQ w.heap.size I r Y) b Y) (fun _ _ _ => False))
        { tmps := (ps.zip (xs r)).foldl (fun t (p, v) => t.setIfInBounds p v) a.tmps, defers := [] } W)
    (hdone : ∀ (D : Nat) (W : World), w.heap.size ≤ D → I N W → W.heap[D]? = some (.deferred (some [])) → Q .normal { a with defers := { target := .collected D, args := #[] } :: a.defers } W) :
    (Code.rangeFunc g ps assign body).wpIn F n P Q a w := by
  refine wpIn_rangeFunc fun fn hfn => ?_
  rw [hro]
  let lp : LoopState → Option Code → Obj := fun st pe => .loop { state := st, pending := pe, fn := fn, tmps := a.tmps, params := ps, assign := assign, body := body, defers := w.heap.size }
  obtain ⟨V, hV⟩ : ∃ V, V = (w.alloc (.deferred (some []))).alloc (lp .ready none) := ⟨_, rfl⟩
  have hl : V.heap[w.heap.size + 1]? = some (lp .ready none) := by
    rw [hV]
    have := World.alloc_heap_new (w.alloc (.deferred (some []))) (lp .ready none)
    rwa [World.size_alloc] at this
  have hd : V.heap[w.heap.size]? = some (.deferred (some [])) := by
    rw [hV]
    exact (Below.heap_alloc _ _ _ (by simp)).trans (World.alloc_heap_new w _)
  have hi : I 0 V := by rw [hV]; exact hI.alloc _ (hI.alloc _ h0)
  refine ⟨w.heap.size + 1, [{ target := .collected w.heap.size, args := #[] }], V, { target := .fn (.func gf) lb, args := #[.func (.yield (w.heap.size + 1)) #[] #[]] }, V, gf,
    #[.func (.yield (w.heap.size + 1)) #[] #[]] ++ lb, V, ?_, ?_, ?_, ?_, fun _ => h1, ?_⟩
  · rw [hV]; exact run_enterLoop_outer _ _ _ _ _
  · simp only [resolve, hg]
    simp [go_sem]
  · intro f' hf'
    simp [Target.leads] at hf'
    subst hf'
    exact hFg
  · simp [invoke, go_sem, eg]
  refine (hseq (w.heap.size + 1) (fun r X => I r X ∧ X.heap[w.heap.size + 1]? = some (lp .ready none) ∧ X.heap[w.heap.size]? = some (.deferred (some []))) V (fun _ _ h => h.1) ?_ ⟨hi, hl, hd⟩).mono ?_
  · rintro r X hr ⟨hiX, hlX, hdX⟩
    have hlt : w.heap.size + 1 < X.heap.size := (Array.getElem?_eq_some_iff.1 hlX).1
    obtain ⟨Y, hY⟩ : ∃ Y, Y = X.putObj (w.heap.size + 1) (lp .busy none) := ⟨_, rfl⟩
    have hlY : Y.heap[w.heap.size + 1]? = some (lp .busy none) := by rw [hY]; exact World.putObj_heap_same hlt
    have hdY : Y.heap[w.heap.size]? = some (.deferred (some [])) := by rw [hY]; exact (World.putObj_heap_other (by omega)).trans hdX
    have hiY : I r Y := by rw [hY]; exact hI.putObj _ hiX (by omega) hlX rfl
    refine ⟨fn, _, assign, body, run_yield hlX (hps r), roundIn_of_wpIn hfn (wpIn_mono (hround _ r X hr hiX) ?_)⟩
    intro e b V hV
    cases e with
    | ret => exact hV.elim
    | exit => exact hV.elim
    | goto => exact hV.elim
    | panic => exact hV.elim
    | outgrown => exact hV.elim
    | normal =>
    obtain ⟨rfl, hbody⟩ := hV
    refine ⟨_, run_beginRound hlX rfl, ?_⟩
    show body.wpIn (F.inRound (w.heap.size + 1)) (n - 1 - 1) P _ b (V.putObj (w.heap.size + 1) (lp .busy none))
    rw [← hY]
    refine wpIn_mono (hbody Y hiY) ?_
    intro e a3 Z hp
    cases e with
    | normal =>
      obtain ⟨hk, hiZ⟩ := hp
      have hlZ := hk.same _ _ (by omega) hlY rfl
      have hdZ := hk.same _ _ (by omega) hdY rfl
      refine ⟨_, _, run_endRound none hlZ, rfl, hI.putObj _ hiZ (by omega) hlZ rfl, World.putObj_heap_same (Array.getElem?_eq_some_iff.1 hlZ).1, (World.putObj_heap_other (by omega)).trans hdZ⟩
    | ret => exact hp.elim
    | exit => exact hp.elim
    | goto => exact hp.elim
    | panic => exact hp.elim
    | outgrown => exact hp.elim
  · rintro e Z ⟨⟨v, rfl⟩, hiZ, hlZ, hdZ⟩
    exact ⟨none, _, run_endLoop hlZ (by simp), hdone _ _ (Nat.le_refl _) (hI.putObj _ hiZ (by omega) hlZ rfl) ((World.putObj_heap_other (by omega)).trans hdZ)⟩

attribute [local go_sem] Oper.semAt_some

set_option linter.unusedSimpArgs false in
set_option linter.unusedVariables false in
set_option maxHeartbeats 2000000 in
set_option maxRecDepth 100000 in
/-- slices.Backward's closure: it hands the places out from the last one down. -/
theorem back_any (F : Fence) (n : Nat) (h31 : F.fn 31) (hro : F.round = none) (hn : 1 ≤ n) (l bb g N c : Nat) (v : Nat → Int) (hN : N ≤ 1000000) (J : Nat → World → Prop)
    (hJ : ∀ r V, J r V → V.cell? ⟨bb, 0, none⟩ = some (.slice (some ⟨g, 0, none⟩) N c) ∧ ∀ k, k + r < N → V.cell? ⟨g, k, none⟩ = some (.int .i64 (v k)))
    (hY : ∀ r V, r < N → J r V → YieldAt F (n - 1) Try.prog l #[.int .i64 ((N - 1 - r : Nat) : Int), .int .i64 (v (N - 1 - r))] V fun e V' => e = .returned (.bool true) ∧ J (r + 1) V') (W : World) (h0 : J 0 W) :
    CallsIn F n Try.prog 31 (#[.func (.yield l) #[] #[]] ++ #[.pointer (some ⟨bb, 0, none⟩)]) W fun e V' => (∃ v, e = .returned v) ∧ J N V' := by
  refine callsIn_of_wp Try.func31 rfl h31 ?_ hro
  simp only [Try.ntmps31, List.size_toArray, List.length_cons, List.length_nil, Nat.reduceAdd, Nat.reduceSub, Array.replicate_succ, Array.replicate_zero, List.push_toArray, List.append_toArray, List.nil_append, List.cons_append]
  have HJ := hide hJ
  have HY := hide hY
  have H0 := hide h0
  have c0 := (hJ 0 W h0).1
  clear hJ hY h0
  gi_wp2
  gi_loopw [3] (fun s3 wr => ∃ (r k : Nat) (x : Int), s3 = .int .i64 x ∧ x = (k : Int) - 1 ∧ k + r = N ∧ Hid (J r wr)) (fun s3 _ => (intOf s3 + 1).toNat)
  case atStart =>
    refine ⟨0, N, _, rfl, ?_, rfl, H0⟩
    omega
  case round =>
    obtain ⟨r, k, x, rfl, hx, hk, HX⟩ := hrel
    clear c0 H0
    cases k with
    | succ k =>
      obtain rfl : x = (k : Int) := by omega
      clear hx
      obtain ⟨c0, c1⟩ := HJ.out r wr HX.out
      have c2 := c1 k (by omega)
      obtain ⟨fn, tmps, assign, body, hy, hR⟩ := HY.out r wr (by omega) HX.out
      rw [show N - 1 - r = k by omega] at hy
      clear c1
      gi_wp2
      refine hR.mono ?_
      rintro e W3 ⟨rfl, hJ3⟩
      have HJ3 := hide hJ3
      clear hJ3
      gi_wp2
      go_roundw
      case rel => exact ⟨r + 1, k, _, rfl, by omega, by omega, HJ3⟩
      case measure => simp [intOf]
    | zero =>
      obtain rfl : x = -1 := by omega
      obtain rfl : r = N := by omega
      clear hx hk
      gi_wp2
      go_end0
      exact ⟨⟨_, rfl⟩, HX.out⟩

set_option linter.unusedVariables false in
set_option maxHeartbeats 1000000 in
theorem backward_any (F : Fence) (n : Nat) (h27 : F.fn 27) (hro : F.round = none) (g N c : Nat) (w : World) :
    CallsIn F n Try.prog 27 #[.slice (some ⟨g, 0, none⟩) N c] w fun e w' => e = .returned (.func (.func 31) #[] #[.pointer (some ⟨w.heap.size, 0, none⟩)]) ∧ w' = w.alloc (.cells #[.slice (some ⟨g, 0, none⟩) N c] 23) := by
  refine callsIn_of_wp Try.func27 rfl h27 ?_ hro
  simp only [Try.ntmps27, List.size_toArray, List.length_cons, List.length_nil, Nat.reduceAdd, Nat.reduceSub, Array.replicate_succ, Array.replicate_zero, List.push_toArray, List.append_toArray, List.nil_append, List.cons_append]
  gi_wp2
  go_ret
  exact ⟨rfl, rfl⟩

theorem backward_at (F : Fence) (n : Nat) (h27 : F.fn 27) (hro : F.round = none) (g N c b : Nat) (w : World) (hb : w.heap.size = b) :
    CallsIn F n Try.prog 27 #[.slice (some ⟨g, 0, none⟩) N c] w fun e w' => e = .returned (.func (.func 31) #[] #[.pointer (some ⟨b, 0, none⟩)]) ∧ w' = w.alloc (.cells #[.slice (some ⟨g, 0, none⟩) N c] 23) := by
  subst hb
  exact backward_any F n h27 hro g N c w
end Go.Proofs.Ytaihafoopoaahaa
