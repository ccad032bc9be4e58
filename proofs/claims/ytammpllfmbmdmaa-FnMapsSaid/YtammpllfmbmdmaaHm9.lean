/- The walk of a hash map's Hash. No condition but that the modulus is an int. -/
import Derived.Test.YtammpllfmbmdmaaMd2
import Derived.StillTailTactics
namespace Go.Proofs.Ytammpllfmbmdmaa
open Go.RowKit

structure HashJ (md : Int) (mb tb p a0 hv n : Nat) (S : List (Int × Int)) (w : World) : Prop where
  v : Blk w hv 3 #[.int .i64 (hashL md S)]
  a : Blk w a0 97 #[.pointer (some ⟨p, 0, none⟩)]
  own : Blk w p 128 (hmCells mb tb n)
  mod : Blk w mb 3 #[.int .i64 md]
  ne : mb ≠ hv

def hashVis (md : Int) (mb tb p a0 hv n : Nat) : Vis where
  id := 98
  caps := #[.pointer (some ⟨hv, 0, none⟩), .pointer (some ⟨a0, 0, none⟩)]
  N := fun i => i = mb ∨ i = a0 ∨ i = p
  J := fun w S K => HashJ md mb tb p a0 hv n S w ∧ ∀ i, K i ↔ i = hv
  stop := fun _ => false
  keep := fun {w w' S K X} h hc hX => by
    obtain ⟨⟨h0, h1, h2, h3, h5⟩, h4⟩ := h
    exact ⟨⟨h0.chg hc (hX hv (Or.inl ((h4 hv).2 rfl))), h1.chg hc (hX a0 (Or.inr (by simp))), h2.chg hc (hX p (Or.inr (by simp))), h3.chg hc (hX mb (Or.inr (by simp))), h5⟩, h4⟩
  lt := fun {w S K} h i hi => by
    obtain ⟨⟨h0, h1, h2, h3, h5⟩, h4⟩ := h
    rcases hi with hi | rfl | rfl | rfl
    · rw [(h4 i).1 hi]; exact h0.lt
    · exact h3.lt
    · exact h1.lt
    · exact h2.lt
  enters := fun args w => by go_simp

theorem hashL_snoc (md : Int) (S : List (Int × Int)) (q : Int × Int) : hashL md (S ++ [q]) = IntKind.i64.wrap (hashL md S + IntKind.i64.wrap (hs md q.1 + hs md q.2)) := by
  simp [hashL, List.foldl_append, hashW]

set_option linter.unusedVariables false in
set_option maxHeartbeats 2000000 in
set_option maxRecDepth 100000 in
theorem hash1_any (md : Int) (mb tb p a0 hv n : Nat) (l : List (Int × Int)) (w0 : World) (K0 : Nat → Prop) (hmd : okI md) : (hashVis md mb tb p a0 hv n).Ok l w0 K0 := by
  intro S q K w _ _ _ _ hJ
  have hfin : Hid ((hashVis md mb tb p a0 hv n).Out S q K w (.returned (.bool false)) (w.drew.setCell ⟨hv, 0, none⟩ (.int .i64 (IntKind.i64.wrap (hashL md S + IntKind.i64.wrap (hs md q.1 + hs md q.2)))))) := by
    obtain ⟨⟨h0, h1, h2, h3, h5⟩, h4⟩ := hJ
    have hc : Chg (· = hv) w (w.drew.setCell ⟨hv, 0, none⟩ (.int .i64 (IntKind.i64.wrap (hashL md S + IntKind.i64.wrap (hs md q.1 + hs md q.2))))) := ((Chg.refl (· = hv) w).drew).setCell (p := ⟨hv, 0, none⟩) (fun _ => rfl) _
    refine ⟨rfl, K, ⟨⟨?_, h1.chg hc (h1.ne_ h0 (by decide)), h2.chg hc (h2.ne_ h0 (by decide)), h3.chg hc h5, h5⟩, h4⟩, fun i hi => Or.inl hi, hc.mono (fun i _ e => (h4 i).2 e)⟩
    rw [hashL_snoc]
    exact Blk.set_ (w := w.drew) h0 0 _
  obtain ⟨⟨h0, h1, h2, h3, h5⟩, h4⟩ := hJ
  have c0 : w.cell? ⟨hv, 0, none⟩ = some (.int .i64 (hashL md S)) := by rw [h0.cell]; rfl
  have f0 := h0.frozen 0
  have c1 : w.cell? ⟨a0, 0, none⟩ = some (.pointer (some ⟨p, 0, none⟩)) := by rw [h1.cell]; rfl
  obtain ⟨d0, d1, d2, d3, d4, d5, d6⟩ := hm_cells h2
  have HMB := hide h3
  clear h0 h1 h2 h3 h4 h5
  generalize hashL md S = hh at *
  show Calls Try.prog 98 #[.int .i64 q.1, .int .i64 q.2, .pointer (some ⟨hv, 0, none⟩), .pointer (some ⟨a0, 0, none⟩)] w _
  go_enter Try.func98, Try.ntmps98
  go_wp2_with fail
  refine wp_region_still_tail 15 (by kernel_rfl) (by kernel_rfl) ?_
  simp only [List.take_succ_cons, List.take_zero, List.drop_succ_cons, List.drop_zero]
  repeat still_step
  still_call (hash_any md q.1 mb _ HMB.out hmd)
  repeat still_step
  still_call (hash_any md q.2 mb _ HMB.out hmd)
  repeat still_step
  try refine wpStill_nil ?_
  change wpList _ _ _ _ _ w.drew
  go_wp2
  refine bodyPost_ret (v := .bool false) ?_ rfl ?_
  · simp [results, Try.f98, go_sem]
  have e9 : ∀ x, wrap64 x = IntKind.i64.wrap x := fun x => by unfold wrap64; rw [IntKind.wrap_i64]
  rw [e9, e9]
  exact hfin.out

/-! ### the sum does not hang on the order -/
theorem hashW_comm (md h : Int) (q r : Int × Int) : hashW md (hashW md h q) r = hashW md (hashW md h r) q := by
  unfold hashW
  simp only [IntKind.wrap_i64]
  omega

theorem hash_perm {md : Int} {a b : List (Int × Int)} (h : a.Perm b) : hashL md a = hashL md b := by
  have : ∀ z, a.foldl (hashW md) z = b.foldl (hashW md) z := by
    induction h with
    | nil => intro z; rfl
    | cons x _ ih => intro z; exact ih _
    | swap x y l => intro z; simp only [List.foldl_cons]; rw [hashW_comm]
    | trans _ _ ih1 ih2 => intro z; rw [ih1, ih2]
  exact this 0

set_option linter.unusedVariables false in
set_option maxHeartbeats 2000000 in
set_option maxRecDepth 100000 in
theorem hashm_any (md : Int) (mb p : Nat) (l : List (Int × Int)) (F : Nat → Prop) (w : World) (h : HM md mb w p l F) (hmd : okI md) :
    Calls Try.prog 78 #[.pointer (some ⟨p, 0, none⟩)] w fun e w' => e = .returned (.int .i64 (hashL md l)) ∧ Below w.heap.size w w' := by
  have hmf : ∀ (fn : Fn) (first cap : Array Value) (w : World), (Instr.makeFunc fn first cap).run Try.prog w = .ok (.func fn first cap) w := fun _ _ _ _ => rfl
  have hb : Below w.heap.size w ((w.alloc (.cells #[.pointer (some ⟨p, 0, none⟩)] 97)).alloc (.cells #[.int .i64 0] 3)) := ((Below.refl _ _).alloc (Nat.le_refl _) _).alloc (by simp) _
  have hv0 : Blk ((w.alloc (.cells #[.pointer (some ⟨p, 0, none⟩)] 97)).alloc (.cells #[.int .i64 0] 3)) w.heap.size 97 #[.pointer (some ⟨p, 0, none⟩)] := (Blk.new _ _ _).alloc _
  have hv1 : Blk ((w.alloc (.cells #[.pointer (some ⟨p, 0, none⟩)] 97)).alloc (.cells #[.int .i64 0] 3)) (w.heap.size + 1) 3 #[.int .i64 0] := Blk.new_ _ _ _ (by simp)
  have hm1 := h.below hb
  have HF := hide h.lt
  have hmbl := h.mod.lt
  have HB := hide hb
  clear h hb
  go_enter Try.func78, Try.ntmps78
  go_wp2_with fail
  generalize (w.alloc (.cells #[.pointer (some ⟨p, 0, none⟩)] 97)).alloc (.cells #[.int .i64 0] 3) = w1 at *
  have c0 : w1.cell? ⟨w.heap.size, 0, none⟩ = some (.pointer (some ⟨p, 0, none⟩)) := by rw [hv0.cell]; rfl
  obtain ⟨tb, L, ho, _⟩ := hm1.ex
  have hj0 : (hashVis md mb tb p w.heap.size (w.heap.size + 1) l.length).J w1 [] (fun i => i = w.heap.size + 1) := ⟨⟨hv1, hv0, ho, hm1.mod, by omega⟩, fun i => Iff.rfl⟩
  have hit := iter_any (hashVis md mb tb p w.heap.size (w.heap.size + 1) l.length) md mb p l F (fun i => i = w.heap.size + 1) w1 hm1 hj0 (hash1_any md mb tb p w.heap.size (w.heap.size + 1) l.length l _ _ hmd) (fun i hi e => by have := HF.out i hi; omega)
  have HIT := hide hit
  clear hit hj0 ho hm1 hv0 hv1
  go_wp2_with fail
  refine HIT.out.mono ?_
  rintro e w5 ⟨rfl, hc5, hr5⟩
  have hany : l.any (hashVis md mb tb p w.heap.size (w.heap.size + 1) l.length).stop = false := List.any_eq_false.2 (fun _ _ h => by cases h)
  obtain ⟨S, K5, hS, ⟨⟨hv5, _, _, _, _⟩, _⟩, _⟩ := hr5 hany
  rw [hash_perm hS] at hv5
  have vc5 : w5.cell? ⟨w.heap.size + 1, 0, none⟩ = some (.int .i64 (hashL md l)) := by rw [hv5.cell]; rfl
  have HBL : Hid (Below w.heap.size w w5) := HB.out.trans (hc5.below HB.out.size (fun i hi => by omega))
  clear hv5 hr5 hc5
  go_wp2
  go_ret
  exact ⟨rfl, HBL.out⟩
end Go.Proofs.Ytammpllfmbmdmaa
