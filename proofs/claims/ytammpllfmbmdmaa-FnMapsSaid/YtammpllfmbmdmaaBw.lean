/- The walks of spec.with and spec.without, said of rows of the call's own. Printed by gen_bw.py. -/
import Derived.Test.YtammpllfmbmdmaaGw
namespace Go.Proofs.Ytammpllfmbmdmaa
open Go.RowKit

theorem ints_one {l : List Int} : ∀ u ∈ ints l, u.oneCell' = true := fun u hu => by
  obtain ⟨x, _, rfl⟩ := List.mem_map.1 hu
  rfl

theorem Reads.dropT {w : World} {K : Nat → Prop} {ad : Addr} {n c j : Nat} {xs : List Int} (h : Reads w K 1 (some ad) n (ints xs)) (hj : j ≤ n) (hc : n ≤ c) : Reads w K 1 (if c = j then some ad else some (ad.add j)) (n - j) (ints (xs.drop j)) := by
  have h1 := h.drop hj
  split
  · have h0 : n - j = 0 := by omega
    rw [h0] at h1 ⊢
    exact ⟨h1.1, fun h => absurd h (by omega)⟩
  · exact h1

set_option maxHeartbeats 1000000 in
theorem without_own (K : Nat → Prop) (ad : Addr) (n c i : Nat) (l : List Int) (w : World) (h : SliceIs w K (some ad) n c l) (hi : i < n) (hn : n ≤ 549755813888) :
    Calls Try.prog 62 #[.slice (some ad) n c, .int .i64 i] w fun e w' => ∃ A' c', e = .returned (.slice A' (n - 1) c') ∧ w'.ownsRow w.heap.size 3 1 (.slice A' (n - 1) c') (n - 1) (ints (l.eraseIdx i)) ∧ Below w.heap.size w w' := by
  have H := hide h
  have hcap := h.cap
  have hmax := h.max
  unfold maxLen at hmax
  have hr1 := h.reads.take (j := i) (by omega)
  have hr2 := h.reads.dropS (j := i) (by omega) hcap
  have HR1 := hide hr1
  have HR2 := hide hr2
  clear h hr1 hr2
  have hic : i ≤ c := by omega
  have hic2 : i + 1 ≤ n := by omega
  have hic4 : 0 ≤ (i : Int) + 1 := by omega
  have hic3 : (i : Int) + 1 ≤ (n : Int) := by omega
  have hw1 : IntKind.i64.wrap ((i : Int) + 1) = (i : Int) + 1 := by rw [IntKind.wrap_i64]; omega
  go_enter Try.func62, Try.ntmps62
  go_wp2
  have hB0 : Below w.heap.size w (w.alloc (.cells #[] 3)) := (Below.refl _ _).alloc (Nat.le_refl _) _
  have hown0 : (w.alloc (.cells #[] 3)).drew.ownsRow w.heap.size 3 1 (.slice (some ⟨w.heap.size, 0, none⟩) 0 0) 0 [] := World.ownsRow_lit w #[] 0 (Nat.le_refl _) (by simp [maxLen]) rfl
  have hrd0 : Reads (w.alloc (.cells #[] 3)).drew K 1 (some ad) i (ints (l.take i)) := (HR1.out.below hB0).drewN 1
  have HOWN0 := hide hown0
  have HRD0 := hide hrd0
  have HB0 := hide hB0
  have HRE0 : Hid (Reads (w.alloc (.cells #[] 3)).drew (fun i => i < w.heap.size) 1 (if c = i + 1 then some ad else some ⟨ad.block, ad.off + (i + 1), none⟩) (n - (i + 1)) (ints (l.drop (i + 1)))) := ((HR2.out.more (K' := fun i => i < w.heap.size) (fun i hi _ => hi)).below hB0).drewN 1
  have HBD : Hid (Below w.heap.size w (w.alloc (.cells #[] 3)).drew) := (Chg.ofBelow hB0 (fun _ => False)).drew.toBelow
  clear hB0 hown0 hrd0
  go_region_law
    ((first
      | (refine step_appendR (by rfl) (.tmp 5) (.tmp 8) (by rfl) w.heap.size _ 0 [] (by rfl) HOWN0.out (some ad) i c (l.take i) K (by rfl) HRD0.out (fun h => by cases h) (by omega) (by simp) ?_
         intro v1 w1 hO1 hC1 _
         have HO1 := hide hO1
         have HC1 := hide hC1
         have hs1 : w.heap.size ≤ w1.heap.size := Nat.le_trans HB0.out.size hC1.size
         clear hO1 hC1)
      | (refine step_appendR (by rfl) (.tmp 9) (.tmp 13) (by rfl) w.heap.size v1 (0 + i) _ (by rfl) HO1.out (if c = i + 1 then some ad else some ⟨ad.block, ad.off + (i + 1), none⟩) (n - (i + 1)) (c - (i + 1)) (l.drop (i + 1)) (fun i => i < w.heap.size) (by rfl) (HRE0.out.chg HC1.out (fun i _ hi e => by simp [Value.ownBlock] at e; omega)) (fun h => by split at h <;> cases h) (by omega) hs1 ?_
         intro v2 w2 hO2 hC2 _
         have HO2 := hide hO2
         have HC2 := hide hC2
         clear hO2 hC2)
      | fail))
  all_goals
    have hfin : w2.ownsRow w.heap.size 3 1 v2 (n - 1) (ints (l.eraseIdx i)) := by
      have h1 := HO2.out
      rw [List.nil_append, ← List.map_append, ← List.eraseIdx_eq_take_drop_succ, show 0 + i + (n - (i + 1)) = n - 1 by omega] at h1
      exact h1
    obtain ⟨RA, rc, rfl, hrd⟩ := own_reads hfin
    have hsl := hfin
    have hbl : Below w.heap.size w w2 := (HBD.out.trans (HC1.out.below HB0.out.size (fun i hi => by simp [Value.ownBlock] at hi; omega))).trans (HC2.out.below hs1 (fun i hi => (HO1.out.lt i hi).1))
    have HSL := hide hsl
    have HBL := hide hbl
    clear hsl hbl hfin hrd HO2 HC2 HO1 HC1
    go_wp2
    all_goals
      go_ret
      exact ⟨RA, rc, rfl, HSL.out, HBL.out⟩

set_option maxHeartbeats 1000000 in
set_option maxRecDepth 100000 in
theorem with_some (K : Nat → Prop) (ad : Addr) (n c i : Nat) (l : List Int) (x : Int) (w : World) (h : SliceIs w K (some ad) n c l) (hi : i ≤ n) (hn : n ≤ 549755813888) :
    Calls Try.prog 61 #[.slice (some ad) n c, .int .i64 i, .int .i64 x] w fun e w' => ∃ v', e = .returned v' ∧ w'.ownsRow w.heap.size 3 1 v' (n + 1) (ints (l.take i ++ x :: l.drop i)) ∧ Gr w w' := by
  have hcap := h.cap
  have hmax := h.max
  unfold maxLen at hmax
  have HRD1 : Hid (∀ X, Gr w X → Reads X K 1 (some ad) i (ints (l.take i))) := fun X hX => (h.reads.take hi).chg hX (fun _ _ _ h => h)
  have HRD3 : Hid (∀ X, Gr w X → Reads X K 1 (if c = i then some ad else some (ad.add i)) (n - i) (ints (l.drop i))) := fun X hX => (h.reads.dropT hi hcap).chg hX (fun _ _ _ h => h)
  have HLN := hide h.len
  clear h
  have hic : i ≤ c := by omega
  have hi3 : (i : Int) ≤ (n : Int) := by omega
  obtain ⟨i3, hi3', h30, h31, h32⟩ := info_parts info3
  go_enter Try.func61, Try.ntmps61
  go_wp2
  go_region_law
    ((first
      | (refine step_append0 (by rfl) (.tmp 7) (.tmp 10) 27 (by rfl) w.heap.size 3 i3 (.int .i64 0) 1 8 Try.underlying27 hi3' h30 h31 h32 rfl (by decide) _ (by rfl) (by (repeat (first | ((with_reducible refine Blk.new_ _ _ _ ?_); simp; done) | (with_reducible refine Blk.alloc ?_ _) | (with_reducible refine Blk.drew_ ?_) | (with_reducible refine HT4.out _ _ _ ?_) | (with_reducible refine HT9.out _ _ _ ?_)))) (by (first | omega | (simp; done) | (simp; omega))) (some ad) i c (ints (l.take i)) _ (by rfl) (HRD1.out _ (by (repeat (first | (with_reducible exact Chg.refl _ _) | (with_reducible exact HG4.out) | (with_reducible exact HG9.out) | (with_reducible exact HG14.out) | (with_reducible refine Chg.alloc ?_ _) | (with_reducible refine Chg.drew ?_))))) ints_one (fun h => by first | rfl | cases h) (by unfold maxLen; omega) (by omega) ?_
         intro v1 w1 hO1 hG1
         have HO4 := hide hO1
         have HG4 : Hid (Gr w w1) := Chg.trans (by (repeat (first | (with_reducible exact Chg.refl _ _) | (with_reducible exact HG4.out) | (with_reducible exact HG9.out) | (with_reducible exact HG14.out) | (with_reducible refine Chg.alloc ?_ _) | (with_reducible refine Chg.drew ?_)))) hG1 (fun _ _ h => h)
         have HT4 := hide hG1.blk
         have hs1 : w.heap.size ≤ w1.heap.size := HG4.out.size
         clear hO1 hG1)
      | (refine step_appendN (by rfl) (.tmp 11) (.tmp 13) 27 (by rfl) w.heap.size 3 i3 (.int .i64 0) 1 8 Try.underlying27 hi3' h30 h31 h32 rfl (by decide) v1 (by rfl) i (ints (l.take i)) (by (repeat (first | (with_reducible exact HO4.out) | (with_reducible exact HO9.out) | (with_reducible refine World.ownsRow.alloc ?_ _) | (with_reducible refine own_drew ?_)))) (Chg.size (S := fun _ => False) (by (repeat (first | (with_reducible exact Chg.refl _ _) | (with_reducible exact HG4.out) | (with_reducible exact HG9.out) | (with_reducible exact HG14.out) | (with_reducible refine Chg.alloc ?_ _) | (with_reducible refine Chg.drew ?_))))) _ 1 1 [.int .i64 x] (by rfl) rfl (news_blk (t := 3) (cs := #[.int .i64 x]) (by (repeat (first | ((with_reducible refine Blk.new_ _ _ _ ?_); simp; done) | (with_reducible refine Blk.alloc ?_ _) | (with_reducible refine Blk.drew_ ?_) | (with_reducible refine HT4.out _ _ _ ?_) | (with_reducible refine HT9.out _ _ _ ?_))))) (by simp [Value.oneCell']) (by unfold maxLen; omega) (by omega) ?_
         intro v2 w2 hO2 hC2
         have HG9 : Hid (Gr w w2) := Gr.then (by (repeat (first | (with_reducible exact Chg.refl _ _) | (with_reducible exact HG4.out) | (with_reducible exact HG9.out) | (with_reducible exact HG14.out) | (with_reducible refine Chg.alloc ?_ _) | (with_reducible refine Chg.drew ?_)))) hC2 (fun i hi => ((HO4.out).lt i hi).1)
         have HO9 := hide hO2
         have hs2 : w.heap.size ≤ w2.heap.size := HG9.out.size
         clear hO2 hC2)
      | (refine step_appendR (by rfl) (.tmp 14) (.tmp 17) (by rfl) w.heap.size v2 (i + 1) _ (by rfl) HO9.out (if c = i then some ad else some (ad.add i)) (n - i) (c - i) (l.drop i) K (by rfl) (HRD3.out _ HG9.out) (fun h => by split at h <;> cases h) (by omega) hs2 ?_
         intro v3 w3 hO3 hC3 _
         have HG14 : Hid (Gr w w3) := Gr.then HG9.out hC3 (fun i hi => ((HO9.out).lt i hi).1)
         have HO14 := hide hO3
         clear hO3 hC3)
      | fail))
  all_goals
    have hfin := HO14.out
    rw [show i + 1 + (n - i) = n + 1 by omega] at hfin
    obtain ⟨RA, rc, rfl, _⟩ := own_reads hfin
    have HF := hide hfin
    clear hfin HO14 HO9 HO4
    go_wp2
    all_goals
      go_ret
      refine ⟨_, rfl, ?_, HG14.out⟩
      have h1 := HF.out
      have e1 : ints (l.take i) ++ [Value.int .i64 x] ++ ints (l.drop i) = ints (l.take i ++ x :: l.drop i) := by simp
      rw [e1] at h1
      simpa using h1

set_option maxHeartbeats 1000000 in
set_option maxRecDepth 100000 in
theorem with_none (x : Int) (w : World) :
    Calls Try.prog 61 #[.slice none 0 0, .int .i64 0, .int .i64 x] w fun e w' => ∃ v', e = .returned v' ∧ w'.ownsRow w.heap.size 3 1 v' 1 (ints [x]) ∧ Gr w w' := by
  have HRD1 : Hid (∀ X, Gr w X → Reads X (fun _ => True) 1 none 0 (ints [])) := fun X _ => ⟨rfl, fun h => absurd h (by omega)⟩
  obtain ⟨i3, hi3', h30, h31, h32⟩ := info_parts info3
  go_enter Try.func61, Try.ntmps61
  go_wp2
  go_region_law
    ((first
      | (refine step_append0 (by rfl) (.tmp 7) (.tmp 10) 27 (by rfl) w.heap.size 3 i3 (.int .i64 0) 1 8 Try.underlying27 hi3' h30 h31 h32 rfl (by decide) _ (by rfl) (by (repeat (first | ((with_reducible refine Blk.new_ _ _ _ ?_); simp; done) | (with_reducible refine Blk.alloc ?_ _) | (with_reducible refine Blk.drew_ ?_) | (with_reducible refine HT4.out _ _ _ ?_) | (with_reducible refine HT9.out _ _ _ ?_)))) (by (first | omega | (simp; done) | (simp; omega))) none 0 0 (ints []) _ (by rfl) (HRD1.out _ (by (repeat (first | (with_reducible exact Chg.refl _ _) | (with_reducible exact HG4.out) | (with_reducible exact HG9.out) | (with_reducible exact HG14.out) | (with_reducible refine Chg.alloc ?_ _) | (with_reducible refine Chg.drew ?_))))) ints_one (fun h => by first | rfl | cases h) (by unfold maxLen; omega) (by omega) ?_
         intro v1 w1 hO1 hG1
         have HO4 := hide hO1
         have HG4 : Hid (Gr w w1) := Chg.trans (by (repeat (first | (with_reducible exact Chg.refl _ _) | (with_reducible exact HG4.out) | (with_reducible exact HG9.out) | (with_reducible exact HG14.out) | (with_reducible refine Chg.alloc ?_ _) | (with_reducible refine Chg.drew ?_)))) hG1 (fun _ _ h => h)
         have HT4 := hide hG1.blk
         have hs1 : w.heap.size ≤ w1.heap.size := HG4.out.size
         clear hO1 hG1)
      | (refine step_appendN (by rfl) (.tmp 11) (.tmp 13) 27 (by rfl) w.heap.size 3 i3 (.int .i64 0) 1 8 Try.underlying27 hi3' h30 h31 h32 rfl (by decide) v1 (by rfl) 0 (ints []) (by (repeat (first | (with_reducible exact HO4.out) | (with_reducible exact HO9.out) | (with_reducible refine World.ownsRow.alloc ?_ _) | (with_reducible refine own_drew ?_)))) (Chg.size (S := fun _ => False) (by (repeat (first | (with_reducible exact Chg.refl _ _) | (with_reducible exact HG4.out) | (with_reducible exact HG9.out) | (with_reducible exact HG14.out) | (with_reducible refine Chg.alloc ?_ _) | (with_reducible refine Chg.drew ?_))))) _ 1 1 [.int .i64 x] (by rfl) rfl (news_blk (t := 3) (cs := #[.int .i64 x]) (by (repeat (first | ((with_reducible refine Blk.new_ _ _ _ ?_); simp; done) | (with_reducible refine Blk.alloc ?_ _) | (with_reducible refine Blk.drew_ ?_) | (with_reducible refine HT4.out _ _ _ ?_) | (with_reducible refine HT9.out _ _ _ ?_))))) (by simp [Value.oneCell']) (by unfold maxLen; omega) (by omega) ?_
         intro v2 w2 hO2 hC2
         have HG9 : Hid (Gr w w2) := Gr.then (by (repeat (first | (with_reducible exact Chg.refl _ _) | (with_reducible exact HG4.out) | (with_reducible exact HG9.out) | (with_reducible exact HG14.out) | (with_reducible refine Chg.alloc ?_ _) | (with_reducible refine Chg.drew ?_)))) hC2 (fun i hi => ((HO4.out).lt i hi).1)
         have HO9 := hide hO2
         have hs2 : w.heap.size ≤ w2.heap.size := HG9.out.size
         clear hO2 hC2)
      | (refine step_appendR (by rfl) (.tmp 14) (.tmp 17) (by rfl) w.heap.size v2 (0 + 1) _ (by rfl) HO9.out none 0 0 [] (fun _ => True) (by rfl) (HRD1.out _ HG9.out) (fun _ => rfl) (by omega) hs2 ?_
         intro v3 w3 hO3 hC3 _
         have HG14 : Hid (Gr w w3) := Gr.then HG9.out hC3 (fun i hi => ((HO9.out).lt i hi).1)
         have HO14 := hide hO3
         clear hO3 hC3)
      | fail))
  all_goals
    have hfin := HO14.out
    skip
    obtain ⟨RA, rc, rfl, _⟩ := own_reads hfin
    have HF := hide hfin
    clear hfin HO14 HO9 HO4
    go_wp2
    all_goals
      go_ret
      refine ⟨_, rfl, ?_, HG14.out⟩
      have h1 := HF.out
      exact h1

theorem with_any (K : Nat → Prop) (A : Option Addr) (n c i : Nat) (l : List Int) (x : Int) (w : World) (h : SliceIs w K A n c l) (hi : i ≤ n) (hn : n ≤ 549755813888) :
    Calls Try.prog 61 #[.slice A n c, .int .i64 i, .int .i64 x] w fun e w' => ∃ v', e = .returned v' ∧ w'.ownsRow w.heap.size 3 1 v' (n + 1) (ints (l.take i ++ x :: l.drop i)) ∧ Gr w w' := by
  cases A with
  | some ad => exact with_some K ad n c i l x w h hi hn
  | none =>
    obtain rfl := h.nil_ rfl
    have hn0 : n = 0 := by have := h.cap; omega
    subst hn0
    have hi0 : i = 0 := by omega
    subst hi0
    obtain rfl : l = [] := List.eq_nil_of_length_eq_zero h.len
    exact with_none x w

end Go.Proofs.Ytammpllfmbmdmaa
