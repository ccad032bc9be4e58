/- impl.Maps hands back a row of its own. Under sizes alone. -/
import Derived.Test.YtammpllfmbmdmaaMok
import Derived.Test.YtammpllfmbmdmaaSp2
namespace Go.Proofs.Ytammpllfmbmdmaa
open Go.RowKit

/-- The row that impl.Maps hands back. -/
def MOut (L : List AnsD) (w : World) (e : Ending) (w' : World) : Prop :=
  ∃ v P, e = .returned v ∧ P.map (·.1) = L ∧ OutRow w' (Row3 w') 46 w.heap.size v P ∧ Below w.heap.size w w'

set_option linter.unusedVariables false in
set_option maxHeartbeats 2000000 in
set_option maxRecDepth 100000 in
theorem maps_own (md : Int) (A : Option Addr) (k c : Nat) (S : List StepD) (w : World) (hmd : okI md) (hs : StepsIn w (fun _ => True) A k S) (hk : k ≤ 2147483647) (hgood : goodM md ([], []) S) :
    Calls Try.prog 21 #[.int .i64 md, .slice A k c] w (MOut (outsM md ([], []) S) w) := by
  have hmf : ∀ (fn : Fn) (first cap : Array Value) (w : World), (Instr.makeFunc fn first cap).run Try.prog w = .ok (.func fn first cap) w := fun _ _ _ _ => rfl
  have hb0 : Below w.heap.size w ((w.alloc (.cells #[.int .i64 md] 3)).alloc (.cells #[.pointer none, .pointer none] 98)) := ((Below.refl _ _).alloc (Nat.le_refl _) _).alloc (by simp) _
  have hm0 : Blk ((w.alloc (.cells #[.int .i64 md] 3)).alloc (.cells #[.pointer none, .pointer none] 98)) w.heap.size 3 #[.int .i64 md] := (Blk.new _ _ _).alloc _
  have ha0 : Blk ((w.alloc (.cells #[.int .i64 md] 3)).alloc (.cells #[.pointer none, .pointer none] 98)) (w.heap.size + 1) 98 #[.pointer none, .pointer none] := Blk.new_ _ _ _ (by simp)
  have HS := hide hs.old
  have HG := hide hgood
  have HBB0 := hide hb0
  have HM0 := hide hm0
  have HA0 := hide ha0
  clear hs hgood hb0 hm0 ha0
  go_enter Try.func21, Try.ntmps21
  go_wp2_with fail
  refine wp_loop_rounds 3 ?_
  rw [rounds_succ]
  go_wp2_with fail
  generalize (w.alloc (.cells #[.int .i64 md] 3)).alloc (.cells #[.pointer none, .pointer none] 98) = W0 at *
  have hs0 : w.heap.size + 2 ≤ W0.heap.size := by have := HA0.out.lt; omega
  refine (new_any md w.heap.size _ HM0.out).mono ?_
  rintro e w1 ⟨p0, rfl, ⟨F0, hm0, hge0⟩, hb1⟩
  have ha1 := HA0.out.below hb1 HA0.out.lt
  have a0 : w1.cell? ⟨w.heap.size + 1, 0, none⟩ = some (.pointer none) := by rw [ha1.cell]; rfl
  have a0f := ha1.frozen 0
  have hc2 : Chg (· = w.heap.size + 1) w1 (w1.setCell ⟨w.heap.size + 1, 0, none⟩ (.pointer (some ⟨p0, 0, none⟩))) := (Chg.refl (· = w.heap.size + 1) w1).setCell (p := ⟨w.heap.size + 1, 0, none⟩) (fun _ => rfl) _
  have HM2 : Hid (HM md w.heap.size (w1.setCell ⟨w.heap.size + 1, 0, none⟩ (.pointer (some ⟨p0, 0, none⟩))) p0 [] F0) := hm0.chg hc2 (fun i hi e => by have := hge0 i hi; omega) (by omega)
  have HA2 : Hid (Blk (w1.setCell ⟨w.heap.size + 1, 0, none⟩ (.pointer (some ⟨p0, 0, none⟩))) (w.heap.size + 1) 98 #[.pointer (some ⟨p0, 0, none⟩), .pointer none]) := ha1.set_ 0 _
  have HB2 : Hid (Below w.heap.size w (w1.setCell ⟨w.heap.size + 1, 0, none⟩ (.pointer (some ⟨p0, 0, none⟩)))) := (HBB0.out.trans (hb1.mono (by omega))).setCell (p := ⟨w.heap.size + 1, 0, none⟩) (Nat.le_succ _) _
  have HGE0 : Hid (∀ i, F0 i → w.heap.size + 2 ≤ i) := fun i hi => by have := hge0 i hi; omega
  have HS2 : Hid (W0.heap.size ≤ (w1.setCell ⟨w.heap.size + 1, 0, none⟩ (.pointer (some ⟨p0, 0, none⟩))).heap.size) := Nat.le_trans hb1.size hc2.size
  clear hm0 hge0 hb1 ha1 hc2
  go_wp2_with fail
  generalize w1.setCell ⟨w.heap.size + 1, 0, none⟩ (.pointer (some ⟨p0, 0, none⟩)) = w2 at *
  clear a0 a0f
  rw [rounds_succ]
  go_wp2_with fail
  refine (new_any md w.heap.size _ HM2.out.mod).mono ?_
  rintro e w3 ⟨p1, rfl, ⟨F1, hm1, hge1⟩, hb3⟩
  have ha3 := HA2.out.below hb3 HA2.out.lt
  have a1 : w3.cell? ⟨w.heap.size + 1, 1, none⟩ = some (.pointer none) := by rw [ha3.cell]; rfl
  have a1f := ha3.frozen 1
  have hc4 : Chg (· = w.heap.size + 1) w3 (w3.setCell ⟨w.heap.size + 1, 1, none⟩ (.pointer (some ⟨p1, 0, none⟩))) := (Chg.refl (· = w.heap.size + 1) w3).setCell (p := ⟨w.heap.size + 1, 1, none⟩) (fun _ => rfl) _
  have HP4 : Hid (MP md w.heap.size w.heap.size (w.heap.size + 1) (w3.setCell ⟨w.heap.size + 1, 1, none⟩ (.pointer (some ⟨p1, 0, none⟩))) [] [] (fun i => i = w.heap.size + 1 ∨ i = w.heap.size ∨ F0 i ∨ F1 i) p0 p1 F0 F1) := by
    have hz2 := HS2.out
    refine ⟨ha3.set_ 1 _, (HM2.out.below hb3).chg hc4 (fun i hi e => by have := HGE0.out i hi; omega) (by omega), hm1.chg hc4 (fun i hi e => by have := hge1 i hi; omega) (by omega), fun i h0 h1 => ?_, fun h => ?_, fun h => ?_, fun i => Iff.rfl, fun i hi => ?_⟩
    · have h2 := HM2.out.lt i h0
      have h3 := hge1 i h1
      omega
    · have := HGE0.out _ h; omega
    · have := hge1 _ h; omega
    · rcases hi with hi | hi | hi | hi
      · omega
      · omega
      · have := HGE0.out i hi; omega
      · have := hge1 i hi; omega
  have HB4 : Hid (Below w.heap.size w (w3.setCell ⟨w.heap.size + 1, 1, none⟩ (.pointer (some ⟨p1, 0, none⟩)))) := (HB2.out.trans (hb3.mono HB2.out.size)).setCell (p := ⟨w.heap.size + 1, 1, none⟩) (Nat.le_succ _) _
  clear hm1 hge1 hb3 ha3 hc4
  go_wp2_with fail
  generalize w3.setCell ⟨w.heap.size + 1, 1, none⟩ (.pointer (some ⟨p1, 0, none⟩)) = w4 at *
  clear a1 a1f
  rw [rounds_succ]
  go_wp2_with fail
  have hsW : StepsIn w4 (fun i => i < w.heap.size) A k S := HS.out.keep HB4.out.size (fun p hp _ => HB4.out.cell hp)
  have hrun := run_any (machM md w.heap.size w.heap.size (w.heap.size + 1)) (machM_ok md _ _ _ hmd) ([], []) _ A k c S w4 HP4.out.inv hsW hk (good_eq md _ _ _ S _ HG.out) HB4.out.size
  refine hrun.mono ?_
  clear hrun hsW
  rintro e w5 ⟨v, P, F', rfl, hout, hmap, hcg⟩
  rw [outs_eq] at hmap
  have hfin : Hid (MOut (outsM md ([], []) S) w (.returned v) w5) := by
    refine ⟨v, P, rfl, hmap, ⟨⟨hout.own.1, ?_⟩, fun p hp => ?_⟩, HB4.out.trans (hcg.below HB4.out.size (fun i hi => hi))⟩
    · rcases hout.own.2 with h | ⟨g, cap, cur, h1, h2, h3⟩
      · exact Or.inl h
      · exact Or.inr ⟨g, cap, cur, h1, Nat.le_trans HB4.out.size h2, h3⟩
    · obtain ⟨LA, lc, e, hs⟩ := hout.lists p hp
      exact ⟨LA, lc, e, hs.more (fun _ _ h => h.2)⟩
  clear hout hmap hcg
  go_wp2
  go_ret
  exact hfin.out
end Go.Proofs.Ytammpllfmbmdmaa
