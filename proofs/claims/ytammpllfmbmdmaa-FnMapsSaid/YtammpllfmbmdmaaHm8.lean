/- The walks of a hash map's Update and Equal. Under sizes alone. -/
import Derived.Test.YtammpllfmbmdmaaHm7
namespace Go.Proofs.Ytammpllfmbmdmaa
open Go.RowKit
open Go.ChangeMaps (setBlock)

set_option linter.unusedVariables false in
set_option maxHeartbeats 2000000 in
set_option maxRecDepth 100000 in
theorem update_any (md : Int) (mb p p2 : Nat) (l l2 : List (Int × Int)) (F F2 : Nat → Prop) (w : World) (h : HM md mb w p l F) (h2 : HM md mb w p2 l2 F2) (hmd : okI md) (hl : l.length + l2.length ≤ 1099511627776) :
    Calls Try.prog 77 #[.pointer (some ⟨p, 0, none⟩), .pointer (some ⟨p2, 0, none⟩)] w fun e w' => ∃ p', e = .returned (.pointer (some ⟨p', 0, none⟩)) ∧ HNew md mb (putAll l l2) w.heap.size w' p' ∧ Below w.heap.size w w' := by
  have hmf : ∀ (fn : Fn) (first cap : Array Value) (w : World), (Instr.makeFunc fn first cap).run Try.prog w = .ok (.func fn first cap) w := fun _ _ _ _ => rfl
  have HCP := hide (copy_any md mb p l F w h hmd (by omega))
  have HM2 := hide h2
  have HN := hide h.nodup
  clear h h2
  go_enter Try.func77, Try.ntmps77
  go_wp2_with fail
  refine HCP.out.mono ?_
  rintro e w3 ⟨p1, rfl, ⟨F0, hm0, hge0⟩, hb3⟩
  have hcom : Blk (w3.alloc (.cells #[.pointer (some ⟨p1, 0, none⟩)] 97)) w3.heap.size 97 #[.pointer (some ⟨p1, 0, none⟩)] ∧ HM md mb (w3.alloc (.cells #[.pointer (some ⟨p1, 0, none⟩)] 97)) p1 l F0 ∧ (∀ i, F0 i → w.heap.size ≤ i) ∧ ¬ F0 w3.heap.size ∧ Below w.heap.size w (w3.alloc (.cells #[.pointer (some ⟨p1, 0, none⟩)] 97)) ∧ w.heap.size ≤ w3.heap.size :=
    ⟨Blk.new _ _ _, hm0.below ((Below.refl _ _).alloc (Nat.le_refl _) _), hge0, (fun h => by have := hm0.lt _ h; omega), hb3.alloc hb3.size _, hb3.size⟩
  have HCOM := hide hcom
  clear hcom hm0 hge0 hb3
  go_wp2_with fail
  generalize w3.alloc (.cells #[.pointer (some ⟨p1, 0, none⟩)] 97) = w4 at *
  generalize w3.heap.size = cv at *
  obtain ⟨hv4, hm4, hge, hn4, hb4, hcv⟩ := HCOM.out
  have hj0 : (putVis 97 md mb cv p1 l enters97).J w4 [] (fun i => F0 i ∨ i = cv) := ⟨hv4, F0, hm4, fun i => Iff.rfl, hn4⟩
  have hit := iter_any (putVis 97 md mb cv p1 l enters97) md mb p2 l2 F2 (fun i => F0 i ∨ i = cv) w4 (HM2.out.below hb4) hj0 (update1_any md mb cv p1 l l2 w4 _ hmd hl) (fun i hi h => by
    have := HM2.out.lt i hi
    rcases h with h | h
    · have := hge i h; omega
    · omega)
  have vc4 : w4.cell? ⟨cv, 0, none⟩ = some (.pointer (some ⟨p1, 0, none⟩)) := by rw [hv4.cell]; rfl
  have HIT := hide hit
  have HB4 := hide hb4
  have HGE := hide hge
  clear hit hj0 hb4 hge hm4 hn4 hv4
  go_wp2_with fail
  refine HIT.out.mono ?_
  rintro e w5 ⟨rfl, hc5, hr5⟩
  have hany : l2.any (putVis 97 md mb cv p1 l enters97).stop = false := List.any_eq_false.2 (fun _ _ h => by cases h)
  obtain ⟨S, K5, hS, ⟨hv5, F5, hm5', hK5, hn5⟩, hk5⟩ := hr5 hany
  have vc5 : w5.cell? ⟨cv, 0, none⟩ = some (.pointer (some ⟨p1, 0, none⟩)) := by rw [hv5.cell]; rfl
  have hfin : HNew md mb (putAll l l2) w.heap.size w5 p1 := ⟨F5, hm5'.perm (putAll_perm HN.out HM2.out.nodup hS), fun i hi => by
    rcases hk5 i ((hK5 i).2 (Or.inl hi)) with (h | h) | h
    · exact HGE.out i h
    · omega
    · have := HB4.out.size; omega⟩
  have hbl : Below w.heap.size w w5 := HB4.out.trans (hc5.below HB4.out.size (fun i hi => by
    rcases hi with h | h
    · exact HGE.out i h
    · omega))
  have HFIN := hide hfin
  have HBL := hide hbl
  clear hfin hbl hv5 hm5' hr5 hc5 hk5
  go_wp2
  go_ret
  exact ⟨p1, rfl, HFIN.out, HBL.out⟩

theorem eq_turn (a b : Int) : (!decide (a = b)) = !decide (some b = some a) := by
  by_cases h : a = b
  · rw [h]; simp
  · have h2 : ¬ b = a := fun e => h e.symm
    simp [h, h2]

/-! ### Equal -/
/-- What Equal visits with. -/
structure EqJ (md : Int) (mb tb p p2 a0 a1 n : Nat) (l2 : List (Int × Int)) (F2 : Nat → Prop) (w : World) : Prop where
  v0 : Blk w a0 97 #[.pointer (some ⟨p, 0, none⟩)]
  v1 : Blk w a1 97 #[.pointer (some ⟨p2, 0, none⟩)]
  hm : HM md mb w p2 l2 F2
  own : Blk w p 128 (hmCells mb tb n)

def eqVis (md : Int) (mb tb p p2 a0 a1 n : Nat) (l2 : List (Int × Int)) (F2 : Nat → Prop) : Vis where
  id := 96
  caps := #[.pointer (some ⟨a1, 0, none⟩), .pointer (some ⟨a0, 0, none⟩)]
  N := fun i => F2 i ∨ i = mb ∨ i = a0 ∨ i = a1 ∨ i = p
  J := fun w _ K => EqJ md mb tb p p2 a0 a1 n l2 F2 w ∧ ∀ i, ¬ K i
  stop := fun q => !decide (l2.lookup q.1 = some q.2)
  keep := fun {w w' S K X} h hc hX => by
    obtain ⟨⟨h0, h1, h2, h3⟩, h4⟩ := h
    exact ⟨⟨h0.chg hc (hX a0 (Or.inr (by simp))), h1.chg hc (hX a1 (Or.inr (by simp))), h2.chg hc (fun i hi => hX i (Or.inr (Or.inl hi))) (hX mb (Or.inr (by simp))), h3.chg hc (hX p (Or.inr (by simp)))⟩, h4⟩
  lt := fun {w S K} h i hi => by
    obtain ⟨⟨h0, h1, h2, h3⟩, h4⟩ := h
    rcases hi with hi | hi | rfl | rfl | rfl | rfl
    · exact absurd hi (h4 i)
    · exact h2.lt i hi
    · exact h2.mod.lt
    · exact h0.lt
    · exact h1.lt
    · exact h3.lt
  enters := fun args w => by go_simp

set_option maxHeartbeats 1000000 in
theorem equal1_any (md : Int) (mb tb p p2 a0 a1 n : Nat) (l l2 : List (Int × Int)) (F2 : Nat → Prop) (w0 : World) (K0 : Nat → Prop) (hmd : okI md) : (eqVis md mb tb p p2 a0 a1 n l2 F2).Ok l w0 K0 := by
  intro S q K w _ _ _ _ hJ
  obtain ⟨h0, h1, h2, h3⟩ := hJ.1
  have c0 : w.cell? ⟨a0, 0, none⟩ = some (.pointer (some ⟨p, 0, none⟩)) := by rw [h0.cell]; rfl
  have c1 : w.cell? ⟨a1, 0, none⟩ = some (.pointer (some ⟨p2, 0, none⟩)) := by rw [h1.cell]; rfl
  have c2 := (hm_cells h3).2.1
  have HG := hide (get_any md q.1 mb p2 l2 F2 w h2 hmd)
  have HJ := hide hJ
  clear h0 h1 h2 h3 hJ
  show Calls Try.prog 96 #[.int .i64 q.1, .int .i64 q.2, .pointer (some ⟨a1, 0, none⟩), .pointer (some ⟨a0, 0, none⟩)] w _
  have hfin : ∀ (m : Nat) (b : Bool), b = (eqVis md mb tb p p2 a0 a1 n l2 F2).stop q → (eqVis md mb tb p p2 a0 a1 n l2 F2).Out S q K w (.returned (.bool b)) (w.drewN m) := fun m b hb => by
    refine ⟨by rw [hb], K, (eqVis md mb tb p p2 a0 a1 n l2 F2).keep HJ.out ((Chg.refl (fun _ => False) w).drewN m) (fun _ _ h => h), fun i hi => Or.inl hi, (Chg.refl K w).drewN m⟩
  have HFIN := hide hfin
  clear hfin
  go_enter Try.func96, Try.ntmps96
  go_wp2_with fail
  refine HG.out.mono ?_
  rintro e w1 ⟨rfl, m, rfl⟩
  unfold getA
  cases hlk : l2.lookup q.1 with
  | none =>
    go_wp2
    go_ret
    exact HFIN.out m true (by show _ = !decide (l2.lookup q.1 = some q.2); rw [hlk]; rfl)
  | some v =>
    go_wp2_with fail
    refine (same_any _ _ _).mono ?_
    rintro e w1 ⟨rfl, rfl⟩
    go_wp2
    go_ret
    exact HFIN.out m _ (by show _ = !decide (l2.lookup q.1 = some q.2); rw [hlk]; exact eq_turn q.2 v)

/-- Are two hash maps equal? -/
def eqA (l l2 : List (Int × Int)) : Bool := decide (l.length = l2.length) && !(l.any (fun q => !decide (l2.lookup q.1 = some q.2)))

set_option linter.unusedVariables false in
set_option maxHeartbeats 2000000 in
set_option maxRecDepth 100000 in
theorem equal_any (md : Int) (mb p p2 : Nat) (l l2 : List (Int × Int)) (F F2 : Nat → Prop) (w : World) (h : HM md mb w p l F) (h2 : HM md mb w p2 l2 F2) (hmd : okI md) (hd : ∀ i, F i → ¬ F2 i) :
    Calls Try.prog 76 #[.pointer (some ⟨p, 0, none⟩), .pointer (some ⟨p2, 0, none⟩)] w fun e w' => e = .returned (.bool (eqA l l2)) ∧ Below w.heap.size w w' := by
  have hmf : ∀ (fn : Fn) (first cap : Array Value) (w : World), (Instr.makeFunc fn first cap).run Try.prog w = .ok (.func fn first cap) w := fun _ _ _ _ => rfl
  have hb : Below w.heap.size w ((w.alloc (.cells #[.pointer (some ⟨p, 0, none⟩)] 97)).alloc (.cells #[.pointer (some ⟨p2, 0, none⟩)] 97)) := ((Below.refl _ _).alloc (Nat.le_refl _) _).alloc (by simp) _
  have hv0 : Blk ((w.alloc (.cells #[.pointer (some ⟨p, 0, none⟩)] 97)).alloc (.cells #[.pointer (some ⟨p2, 0, none⟩)] 97)) w.heap.size 97 #[.pointer (some ⟨p, 0, none⟩)] := (Blk.new _ _ _).alloc _
  have hv1 : Blk ((w.alloc (.cells #[.pointer (some ⟨p, 0, none⟩)] 97)).alloc (.cells #[.pointer (some ⟨p2, 0, none⟩)] 97)) (w.heap.size + 1) 97 #[.pointer (some ⟨p2, 0, none⟩)] := Blk.new_ _ _ _ (by simp)
  have hm1 := h.below hb
  have hm2 := h2.below hb
  have HN := hide h.nodup
  have HF := hide h.lt
  have HF2 := hide h2.lt
  have HB := hide hb
  clear h h2 hb
  go_enter Try.func76, Try.ntmps76
  go_wp2_with fail
  generalize (w.alloc (.cells #[.pointer (some ⟨p, 0, none⟩)] 97)).alloc (.cells #[.pointer (some ⟨p2, 0, none⟩)] 97) = w1 at *
  have c0 : w1.cell? ⟨w.heap.size, 0, none⟩ = some (.pointer (some ⟨p, 0, none⟩)) := by rw [hv0.cell]; rfl
  have c1 : w1.cell? ⟨w.heap.size + 1, 0, none⟩ = some (.pointer (some ⟨p2, 0, none⟩)) := by rw [hv1.cell]; rfl
  have hdr : ∀ m, HM md mb (w1.drewN m) p l F ∧ HM md mb (w1.drewN m) p2 l2 F2 := fun m => ⟨hm1.chg ((Chg.refl (fun _ => False) w1).drewN m) (fun _ _ h => h) (fun h => h), hm2.chg ((Chg.refl (fun _ => False) w1).drewN m) (fun _ _ h => h) (fun h => h)⟩
  have hl1 := fun m => len_any md mb p l F (w1.drewN m) (hdr m).1
  have hl2 := fun m => len_any md mb p2 l2 F2 (w1.drewN m) (hdr m).2
  obtain ⟨tb, L, ho, _⟩ := hm1.ex
  have HL1 := hide hl1
  have HL2 := hide hl2
  have HDR := hide hdr
  have HO := hide ho
  have HV0 := hide hv0
  have HV1 := hide hv1
  clear hl1 hl2 hdr ho hm1 hm2 hv0 hv1
  go_quiet (first
    | (go_at_call 74; with_reducible exact Calls.quiet_of_same (HL1.out _))
    | (go_at_call 74; with_reducible exact Calls.quiet_of_same (HL2.out _)))
  by_cases hlen : l.length = l2.length
  · have hli : (l.length : Int) = (l2.length : Int) := by omega
    have hit := iter_any (eqVis md mb tb p p2 w.heap.size (w.heap.size + 1) l.length l2 F2) md mb p l F (fun _ => False) (w1.drewN nq) (HDR.out nq).1
      ⟨⟨HV0.out.drewN nq, HV1.out.drewN nq, (HDR.out nq).2, HO.out.drewN nq⟩, fun _ h => h⟩ (equal1_any md mb tb p p2 w.heap.size (w.heap.size + 1) l.length l l2 F2 _ _ hmd) (fun i hi h => h)
    have HIT := hide hit
    clear hit
    go_wp2_with fail
    refine HIT.out.mono ?_
    rintro e w5 ⟨rfl, hc5, _⟩
    have HC5 := hide hc5
    clear hc5
    go_wp2
    refine bodyPost_ret (v := .bool (eqA l l2)) ?_ rfl ?_
    · simp [results, Try.f76, go_sem, eqA, hlen, eqVis]
    exact ⟨rfl, HB.out.trans ((((Chg.refl (fun _ => False) w1).drewN nq).trans HC5.out (fun _ _ h => h)).below HB.out.size (fun _ h => h.elim))⟩
  · have hli : ¬ (l.length : Int) = (l2.length : Int) := by omega
    go_wp2
    go_ret
    exact ⟨by simp [eqA, hlen], HB.out.trans (((Chg.refl (fun _ => False) w1).drewN nq).below HB.out.size (fun _ h => h.elim))⟩
end Go.Proofs.Ytammpllfmbmdmaa
