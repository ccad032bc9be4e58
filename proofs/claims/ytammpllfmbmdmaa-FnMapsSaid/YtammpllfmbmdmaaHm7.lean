/- The walks of a hash map's Copy and Update. Under sizes alone. -/
import Derived.Test.YtammpllfmbmdmaaHm6
namespace Go.Proofs.Ytammpllfmbmdmaa
open Go.RowKit
open Go.ChangeMaps (setBlock)

theorem hm5 {w : World} {p mb tb n : Nat} (h : Blk w p 128 (hmCells mb tb n)) : w.cell? ⟨p, 0, none⟩ = some eqF ∧ w.cell? ⟨p, 1, none⟩ = some eqF ∧ w.cell? ⟨p, 2, none⟩ = some (hF mb) ∧ w.cell? ⟨p, 3, none⟩ = some (hF mb) ∧ w.cell? ⟨p, 4, none⟩ = some (.int .i64 (-1)) := ⟨(hm_cells h).1, (hm_cells h).2.1, (hm_cells h).2.2.1, (hm_cells h).2.2.2.1, (hm_cells h).2.2.2.2.1⟩

theorem HM.below {md : Int} {mb p : Nat} {w w' : World} {l : List (Int × Int)} {F : Nat → Prop} (h : HM md mb w p l F) (hb : Below w.heap.size w w') : HM md mb w' p l F :=
  h.chg (Chg.ofBelow hb (fun _ => False)) (fun _ _ h => h) (fun h => h)

set_option linter.unusedVariables false in
set_option maxHeartbeats 2000000 in
set_option maxRecDepth 100000 in
theorem copy_any (md : Int) (mb p : Nat) (l : List (Int × Int)) (F : Nat → Prop) (w : World) (h : HM md mb w p l F) (hmd : okI md) (hl : l.length ≤ 1099511627776) :
    Calls Try.prog 75 #[.pointer (some ⟨p, 0, none⟩)] w fun e w' => ∃ p', e = .returned (.pointer (some ⟨p', 0, none⟩)) ∧ HNew md mb l w.heap.size w' p' ∧ Below w.heap.size w w' := by
  have hmf : ∀ (fn : Fn) (first cap : Array Value) (w : World), (Instr.makeFunc fn first cap).run Try.prog w = .ok (.func fn first cap) w := fun _ _ _ _ => rfl
  obtain ⟨tb, L, h1, h2, h3, h4⟩ := h.ex
  obtain ⟨c0, c1, c2, c3, c4, c5, c6⟩ := hm_cells h1
  have hpl := h1.lt
  have HM0 := hide h
  have HMB := hide h.mod
  have H1 := hide h1
  clear h h1 h2 h3 h4
  go_enter Try.func75, Try.ntmps75
  go_wp2_with fail
  go_region_held3 (fun w' => w'.cell? ⟨p, 0, none⟩ = some eqF ∧ w'.cell? ⟨p, 1, none⟩ = some eqF ∧ w'.cell? ⟨p, 2, none⟩ = some (hF mb) ∧ w'.cell? ⟨p, 3, none⟩ = some (hF mb) ∧ w'.cell? ⟨p, 4, none⟩ = some (.int .i64 (-1))) (first | with_reducible exact HS3.out | with_reducible exact (HSA _).out | go_keep)
    (first
      | (go_at_call 69
         with_reducible refine (new_any md mb _ (Blk.drew HMB.out)).mono ?_
         rintro e w3 ⟨p1, rfl, hn3, hb3⟩
         have h13 : Blk w3 p 128 (hmCells mb tb l.length) := (Blk.drew H1.out).below hb3 hpl
         have hpl3 := h13.lt
         have HS3 : Hid (w3.cell? ⟨p, 0, none⟩ = some eqF ∧ w3.cell? ⟨p, 1, none⟩ = some eqF ∧ w3.cell? ⟨p, 2, none⟩ = some (hF mb) ∧ w3.cell? ⟨p, 3, none⟩ = some (hF mb) ∧ w3.cell? ⟨p, 4, none⟩ = some (.int .i64 (-1))) := hm5 h13
         have HSA : ∀ o, Hid ((w3.alloc o).cell? ⟨p, 0, none⟩ = some eqF ∧ (w3.alloc o).cell? ⟨p, 1, none⟩ = some eqF ∧ (w3.alloc o).cell? ⟨p, 2, none⟩ = some (hF mb) ∧ (w3.alloc o).cell? ⟨p, 3, none⟩ = some (hF mb) ∧ (w3.alloc o).cell? ⟨p, 4, none⟩ = some (.int .i64 (-1))) := fun o => hm5 (h13.alloc o)
         clear h13
         have HN3 := hide hn3
         have HB3 := hide hb3
         clear hn3 hb3)
      | (go_at_call 69
         refine (new_any md mb _ ((Blk.drew HMB.out).alloc _)).mono ?_
         rintro e w3 ⟨p1, rfl, hn3, hb3⟩
         have hv3 : Blk w3 w.heap.size 97 #[.pointer none] := (Blk.new w.drew 97 #[.pointer none]).below hb3 (by simp)
         have h13 : Blk w3 p 128 (hmCells mb tb l.length) := ((Blk.drew H1.out).alloc (.cells #[.pointer none] 97)).below hb3 (by simp; omega)
         have vc : w3.cell? ⟨w.heap.size, 0, none⟩ = some (.pointer none) := by rw [hv3.cell]; rfl
         have vf := hv3.frozen 0
         have HS3 : Hid (w3.cell? ⟨p, 0, none⟩ = some eqF ∧ w3.cell? ⟨p, 1, none⟩ = some eqF ∧ w3.cell? ⟨p, 2, none⟩ = some (hF mb) ∧ w3.cell? ⟨p, 3, none⟩ = some (hF mb) ∧ w3.cell? ⟨p, 4, none⟩ = some (.int .i64 (-1))) := hm5 h13
         have HSA : ∀ v, Hid ((w3.setCell ⟨w.heap.size, 0, none⟩ v).cell? ⟨p, 0, none⟩ = some eqF ∧ (w3.setCell ⟨w.heap.size, 0, none⟩ v).cell? ⟨p, 1, none⟩ = some eqF ∧ (w3.setCell ⟨w.heap.size, 0, none⟩ v).cell? ⟨p, 2, none⟩ = some (hF mb) ∧ (w3.setCell ⟨w.heap.size, 0, none⟩ v).cell? ⟨p, 3, none⟩ = some (hF mb) ∧ (w3.setCell ⟨w.heap.size, 0, none⟩ v).cell? ⟨p, 4, none⟩ = some (.int .i64 (-1))) := fun v => hm5 (h13.far (by show p ≠ w.heap.size; omega) v)
         have HV3 := hide hv3
         clear hv3 h13
         have HN3 := hide hn3
         have HB3 := hide hb3
         clear hn3 hb3)
      | fail)
  · obtain ⟨F0, hm0, hge0⟩ := HN3.out
    have hb3w : Below w.heap.size w w3 := ⟨HB3.out.os, HB3.out.tape, HB3.out.output, HB3.out.size, HB3.out.block⟩
    have hcom : ∃ F0, Blk (w3.alloc (.cells #[.pointer (some ⟨p1, 0, none⟩)] 97)) w3.heap.size 97 #[.pointer (some ⟨p1, 0, none⟩)] ∧ HM md mb (w3.alloc (.cells #[.pointer (some ⟨p1, 0, none⟩)] 97)) p1 [] F0 ∧ (∀ i, F0 i → w.heap.size ≤ i) ∧ ¬ F0 w3.heap.size ∧ Below w.heap.size w (w3.alloc (.cells #[.pointer (some ⟨p1, 0, none⟩)] 97)) ∧ w.heap.size ≤ w3.heap.size :=
      ⟨F0, Blk.new _ _ _, hm0.below ((Below.refl _ _).alloc (Nat.le_refl _) _), hge0, (fun h => by have := hm0.lt _ h; omega), hb3w.alloc hb3w.size _, hb3w.size⟩
    have hpl3' : p < w3.heap.size := hpl3
    generalize w3.alloc (.cells #[.pointer (some ⟨p1, 0, none⟩)] 97) = w4 at *
    generalize w3.heap.size = cv at *
    clear HN3 HB3 HS3 HSA hm0 hge0 hb3w F0
    obtain ⟨F0, hv4, hm4, hge, hn4, hb4, hcv⟩ := hcom
    have hj0 : (putVis 95 md mb cv p1 [] enters95).J w4 [] (fun i => F0 i ∨ i = cv) := ⟨hv4, F0, hm4, fun i => Iff.rfl, hn4⟩
    have hit := iter_any (putVis 95 md mb cv p1 [] enters95) md mb p l F (fun i => F0 i ∨ i = cv) w4 (HM0.out.below hb4) hj0 (copy1_any md mb cv p1 [] l w4 _ hmd (by simpa using hl)) (fun i hi h => by
      have := HM0.out.lt i hi
      rcases h with h | h
      · have := hge i h; omega
      · omega)
    have vc4 : w4.cell? ⟨cv, 0, none⟩ = some (.pointer (some ⟨p1, 0, none⟩)) := by rw [hv4.cell]; rfl
    have HIT := hide hit
    have HB4 := hide hb4
    have HGE := hide hge
    clear hit hj0 hb4 hge hm4 hn4 hv4
    go_wp2_with fail
    refine HIT.out.mono ?_
    rintro e w5 ⟨rfl, hc5, hr5⟩
    have hany : l.any (putVis 95 md mb cv p1 [] enters95).stop = false := List.any_eq_false.2 (fun _ _ h => by cases h)
    obtain ⟨S, K5, hS, ⟨hv5, F5, hm5', hK5, hn5⟩, hk5⟩ := hr5 hany
    have vc5 : w5.cell? ⟨cv, 0, none⟩ = some (.pointer (some ⟨p1, 0, none⟩)) := by rw [hv5.cell]; rfl
    have hfin : HNew md mb l w.heap.size w5 p1 := ⟨F5, hm5'.perm ((putAll_nil (nodup_perm hS HM0.out.nodup)).trans hS), fun i hi => by
      rcases hk5 i ((hK5 i).2 (Or.inl hi)) with (h | h) | h
      · exact HGE.out i h
      · omega
      · have := HB4.out.size; omega⟩
    have hbl : Below w.heap.size w w5 := HB4.out.trans (hc5.below HB4.out.size (fun i hi => by
      rcases hi with h | h
      · exact HGE.out i h
      · omega))
    have HFIN := hide hfin
    have HBL := hide hbl
    clear hfin hbl hv5 hm5' hr5 hc5 hk5
    go_wp2
    go_ret
    exact ⟨p1, rfl, HFIN.out, HBL.out⟩
  · obtain ⟨F0, hm0, hge0⟩ := HN3.out
    have hbA : Below w.heap.size w (w.drew.alloc (.cells #[.pointer none] 97)) := (Below.refl _ _).drew.alloc (Nat.le_refl _) _
    have hb3w : Below w.heap.size w w3 := hbA.trans (HB3.out.mono hbA.size)
    have hszA : (w.drew.alloc (.cells #[.pointer none] 97)).heap.size = w.heap.size + 1 := World.size_alloc _ _
    have hnF : ¬ F0 w.heap.size := fun h => by
      have := hge0 _ h
      have h9 : w.heap.size + 1 ≤ w.heap.size := hszA ▸ this
      omega
    have hcs : Chg (· = w.heap.size) w3 (w3.setCell ⟨w.heap.size, 0, none⟩ (.pointer (some ⟨p1, 0, none⟩))) := (Chg.refl (· = w.heap.size) w3).setCell (p := ⟨w.heap.size, 0, none⟩) (fun _ => rfl) _
    have hcom : ∃ F0, Blk (w3.setCell ⟨w.heap.size, 0, none⟩ (.pointer (some ⟨p1, 0, none⟩))) w.heap.size 97 #[.pointer (some ⟨p1, 0, none⟩)] ∧ HM md mb (w3.setCell ⟨w.heap.size, 0, none⟩ (.pointer (some ⟨p1, 0, none⟩))) p1 [] F0 ∧ (∀ i, F0 i → w.heap.size ≤ i) ∧ ¬ F0 w.heap.size ∧ Below w.heap.size w (w3.setCell ⟨w.heap.size, 0, none⟩ (.pointer (some ⟨p1, 0, none⟩))) ∧ w.heap.size ≤ w.heap.size :=
      ⟨F0, HV3.out.set_ 0 _, hm0.chg hcs (fun i hi e => hnF (e ▸ hi)) (fun e => by have := HMB.out.lt; omega), (fun i hi => by have h9 : w.heap.size + 1 ≤ i := hszA ▸ hge0 i hi; omega), hnF, hb3w.setCell (p := ⟨w.heap.size, 0, none⟩) (Nat.le_refl _) _, Nat.le_refl _⟩
    obtain ⟨cv, hcve⟩ : ∃ cv, cv = w.heap.size := ⟨_, rfl⟩
    generalize w3.setCell ⟨w.heap.size, 0, none⟩ (.pointer (some ⟨p1, 0, none⟩)) = w4 at *
    clear HN3 HB3 HS3 HSA HV3 hm0 hge0 hb3w vc vf hcs hnF hszA hbA F0
    obtain ⟨F0, hv4, hm4, hge, hn4, hb4, hcv⟩ := hcom
    have hj0 : (putVis 95 md mb w.heap.size p1 [] enters95).J w4 [] (fun i => F0 i ∨ i = w.heap.size) := ⟨hv4, F0, hm4, fun i => Iff.rfl, hn4⟩
    have hit := iter_any (putVis 95 md mb w.heap.size p1 [] enters95) md mb p l F (fun i => F0 i ∨ i = w.heap.size) w4 (HM0.out.below hb4) hj0 (copy1_any md mb w.heap.size p1 [] l w4 _ hmd (by simpa using hl)) (fun i hi h => by
      have := HM0.out.lt i hi
      rcases h with h | h
      · have := hge i h; omega
      · omega)
    have vc4 : w4.cell? ⟨w.heap.size, 0, none⟩ = some (.pointer (some ⟨p1, 0, none⟩)) := by rw [hv4.cell]; rfl
    have HIT := hide hit
    have HB4 := hide hb4
    have HGE := hide hge
    clear hit hj0 hb4 hge hm4 hn4 hv4
    go_wp2_with fail
    refine HIT.out.mono ?_
    rintro e w5 ⟨rfl, hc5, hr5⟩
    have hany : l.any (putVis 95 md mb w.heap.size p1 [] enters95).stop = false := List.any_eq_false.2 (fun _ _ h => by cases h)
    obtain ⟨S, K5, hS, ⟨hv5, F5, hm5', hK5, hn5⟩, hk5⟩ := hr5 hany
    have vc5 : w5.cell? ⟨w.heap.size, 0, none⟩ = some (.pointer (some ⟨p1, 0, none⟩)) := by rw [hv5.cell]; rfl
    have hfin : HNew md mb l w.heap.size w5 p1 := ⟨F5, hm5'.perm ((putAll_nil (nodup_perm hS HM0.out.nodup)).trans hS), fun i hi => by
      rcases hk5 i ((hK5 i).2 (Or.inl hi)) with (h | h) | h
      · exact HGE.out i h
      · omega
      · have := HB4.out.size; omega⟩
    have hbl : Below w.heap.size w w5 := HB4.out.trans (hc5.below HB4.out.size (fun i hi => by
      rcases hi with h | h
      · exact HGE.out i h
      · omega))
    have HFIN := hide hfin
    have HBL := hide hbl
    clear hfin hbl hv5 hm5' hr5 hc5 hk5
    go_wp2
    go_ret
    exact ⟨p1, rfl, HFIN.out, HBL.out⟩
end Go.Proofs.Ytammpllfmbmdmaa
