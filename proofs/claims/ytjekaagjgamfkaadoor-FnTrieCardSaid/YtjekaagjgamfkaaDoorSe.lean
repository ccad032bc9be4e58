/- The walk of spec.Entries. Under sizes alone. -/
import Derived.Test.YtjekaagjgamfkaaDoorGe
import Derived.Deep.QuietTactic
import Derived.BigQuiet
import Derived.Lib.Walk
namespace Go.Proofs.YtjekaagjgamfkaaDoor
open Go.RowKit T
open Go.Op (bytesLess)
attribute [local go_sem] S_size S_toList E_toList S_extract

theorem EntOk.len_ {E : List (Bs × Int)} {l : List Bs} (hE : EntOk E l) : E.length ≤ l.length := by
  have hn : (E.map (·.1)).Nodup := by
    rw [List.nodup_iff_pairwise_ne, List.pairwise_map]
    exact hE.sort.imp (fun hlt e => by rw [e, bl_irrefl] at hlt; cases hlt)
  have := hn.length_le_of_subset (l₂ := l) (fun p hp => by
    obtain ⟨q, hq, rfl⟩ := List.mem_map.1 hp
    exact ((hE.mem q).1 hq).1)
  simpa using this
/-- The entries in the middle of it. -/
structure EsSt (w wr : World) (v : Value) (E : List (Bs × Int)) : Prop where
  own : wr.ownsRow w.heap.size 37 2 v E.length (ents E)
  bel : Below w.heap.size w wr
/-- Where it goes, as far as looked. -/
def atJ (E : List (Bs × Int)) (k : Bs) (j : Nat) : Nat := if atE E k < j then atE E k else E.length
theorem atE_le (E : List (Bs × Int)) (k : Bs) : atE E k ≤ E.length := List.findIdx_le_length
theorem atJ_zero (E : List (Bs × Int)) (k : Bs) : atJ E k 0 = E.length := by simp [atJ]
theorem atJ_end (E : List (Bs × Int)) (k : Bs) : atJ E k E.length = atE E k := by
  unfold atJ
  have := atE_le E k
  split <;> omega
theorem atJ_no {E : List (Bs × Int)} {k : Bs} {j : Nat} {p : Bs × Int} (hp : E[j]? = some p) (h : bytesLess k p.1 = false) : atJ E k (j + 1) = atJ E k j := by
  have hne : atE E k ≠ j := fun e => by
    obtain ⟨h1, h2⟩ := List.getElem?_eq_some_iff.1 hp
    have h3 : atE E k < E.length := by omega
    have h4 : bytesLess k (E[atE E k]).1 = true := List.findIdx_getElem (w := h3)
    subst e
    rw [h2, h] at h4
    cases h4
  unfold atJ
  by_cases h1 : atE E k < j
  · rw [if_pos h1, if_pos (by omega)]
  · rw [if_neg h1, if_neg (by omega)]
theorem atJ_yes {E : List (Bs × Int)} {k : Bs} {j : Nat} {p : Bs × Int} (hp : E[j]? = some p) (h : bytesLess k p.1 = true) : (atJ E k (j + 1) : Int) = min (atJ E k j : Int) (j : Int) := by
  obtain ⟨h1, h2⟩ := List.getElem?_eq_some_iff.1 hp
  have hle : atE E k ≤ j := by
    rcases Nat.lt_or_ge j (atE E k) with h3 | h3
    · have h4 := List.not_of_lt_findIdx (p := fun q : Bs × Int => bytesLess k q.1) (xs := E) h3
      rw [h2] at h4
      simp [h] at h4
    · exact h3
  unfold atJ
  rw [if_pos (by omega)]
  split <;> omega

set_option linter.unusedSimpArgs false in
set_option linter.unusedVariables false in
set_option maxHeartbeats 4000000 in
set_option maxRecDepth 100000 in
theorem specEntries_any (A : Option Addr) (n c : Nat) (ks : List Bs) (w : World) (hr : StrsIn w A n ks) (hm : n ≤ 1000000) :
    Calls Tryd.prog 8 #[.slice A n c] w fun e w' => ∃ v, e = .returned v ∧ EsSt w w' v (entE ks n) := by
  have HR := hide hr
  have HN := hide hr.len
  obtain ⟨i0, hi37, hz0, hz1, hz2⟩ := info_parts info37
  have HZ := hide (And.intro hz0 (And.intro hz1 hz2))
  clear hr hz0 hz1 hz2
  go_enter Tryd.func8, Tryd.ntmps8
  go_wp2
  go_loopw [3, 12] (fun s3 s12 wr => ∃ i : Nat, s12 = .int .i64 i ∧ i ≤ n ∧ Hid (EsSt w wr s3 (entE ks i))) (fun _ s12 _ => n - (intOf s12).toNat)
  case atStart => exact ⟨0, rfl, Nat.zero_le _, (⟨World.ownsRow_nil _ _ _ _, Below.refl _ _⟩ : EsSt w w _ [])⟩
  case round =>
    obtain ⟨i, rfl, hi, HI⟩ := hrel
    by_cases hlt : i < n
    · obtain ⟨k, hk⟩ : ∃ k, ks[i]? = some k := ⟨_, List.getElem?_eq_getElem (by have := HN.out; omega)⟩
      obtain ⟨ad, rfl, hadl, hc⟩ := StrsIn.cell (HR.out.below HI.out.bel) hk
      have HS : Hid (entE ks (i + 1) = insE (entE ks i) k ((i : Int) + 1)) := by
        have h1 : entE ks (i + 1) = insE (entE ks i) k ((i : Int) + 1) := by simp [entE, hk]
        exact h1
      have HEL : Hid ((entE ks i).length ≤ i) := by
        have h1 := (entE_ok ks i).mem
        have h2 : (entE ks i).length ≤ (ks.take i).length := EntOk.len_ (entE_ok ks i)
        have h3 : (entE ks i).length ≤ i := by rw [List.length_take] at h2; omega
        exact h3
      generalize entE ks i = E at *
      have hel := HEL.out
      obtain ⟨A3, c3, rfl, hc3, hm3⟩ := own_cap HI.out.own
      clear hk
      go_wp2
      go_loopw [6, 7, 21] (fun s6 s7 s21 wx => ∃ j : Nat, s21 = .int .i64 j ∧ j ≤ E.length ∧ s6 = .int .i64 (atJ E k j) ∧ s7 = .bool ((E.take j).any (fun p => p.1 == k)) ∧ Hid (EsSt w wx (.slice A3 E.length c3) E)) (fun _ _ s21 _ => E.length - (intOf s21).toNat)
      case atStart => exact ⟨0, rfl, Nat.zero_le _, by rw [atJ_zero], rfl, HI⟩
      case round =>
        obtain ⟨j, rfl, hj, rfl, rfl, HJ⟩ := hrel
        by_cases hjl : j < E.length
        · obtain ⟨p, hp⟩ : ∃ p, E[j]? = some p := ⟨_, List.getElem?_eq_getElem hjl⟩
          obtain ⟨g, hA, hg, k0, k1⟩ := (RdP.of_own HJ.out.own) j p hp
          subst hA
          have HT : Hid ((E.take (j + 1)).any (fun p => p.1 == k) = ((E.take j).any (fun p => p.1 == k) || (p.1 == k))) := by
            have h1 : (E.take (j + 1)).any (fun p => p.1 == k) = ((E.take j).any (fun p => p.1 == k) || (p.1 == k)) := by rw [take_succ hp]; simp
            exact h1
          have HN9 : Hid (EsSt w (wr.alloc (.cells #[.string (S p.1), .int .i64 p.2] 37)) (.slice (some ⟨g, 0, none⟩) E.length c3) E) := (⟨HJ.out.own.alloc _, ((Chg.ofBelow HJ.out.bel (fun _ => False)).alloc _).toBelow⟩ : EsSt w (wr.alloc (.cells #[.string (S p.1), .int .i64 p.2] 37)) (.slice (some ⟨g, 0, none⟩) E.length c3) E)
          cases hbl : bytesLess k p.1 with
          | true =>
            have HJN : Hid ((atJ E k (j + 1) : Int) = min (atJ E k j : Int) (j : Int)) := atJ_yes hp hbl
            have hgt := (bl_total p.1 k).trans hbl
            clear hp hbl
            cases hb : (E.take j).any (fun p => p.1 == k) with
            | true =>
              rw [hb] at HT
              clear hb
              go_wp2
              exact ⟨⟨j + 1, by go_num, by omega, by rw [HJN.out], by rw [HT.out]; rfl, HN9⟩, by simp [intOf]; omega⟩
            | false =>
              rw [hb] at HT
              clear hb
              go_wp2
              exact ⟨⟨j + 1, by go_num, by omega, by rw [HJN.out], by rw [HT.out]; rfl, HN9⟩, by simp [intOf]; omega⟩
          | false =>
            have HJN : Hid (atJ E k (j + 1) = atJ E k j) := atJ_no hp hbl
            have hgt := (bl_total p.1 k).trans hbl
            clear hp hbl
            cases hb : (E.take j).any (fun p => p.1 == k) with
            | true =>
              rw [hb] at HT
              clear hb
              go_wp2
              exact ⟨⟨j + 1, by go_num, by omega, by rw [HJN.out], by rw [HT.out]; rfl, HN9⟩, by simp [intOf]; omega⟩
            | false =>
              rw [hb] at HT
              clear hb
              go_wp2
              exact ⟨⟨j + 1, by go_num, by omega, by rw [HJN.out], by rw [HT.out]; rfl, HN9⟩, by simp [intOf]; omega⟩
        · have hin : E.take j = E := List.take_of_length_le (by omega)
          have hje : j = E.length := by omega
          rw [hin, hje, atJ_end]
          clear hin
          cases hb : E.any (fun p => p.1 == k) with
          | true =>
            have HS2 : Hid (EsSt w wr (.slice A3 E.length c3) (entE ks (i + 1))) := by
              rw [HS.out]; unfold insE; rw [if_pos hb]; exact HJ
            clear hb
            go_wp2
            exact ⟨⟨i + 1, by go_num, by omega, HS2⟩, by simp [intOf]; omega⟩
          | false =>
            have HS2 : Hid (entE ks (i + 1) = E.take (atE E k) ++ (k, (i : Int) + 1) :: E.drop (atE E k)) := by
              have h1 : entE ks (i + 1) = E.take (atE E k) ++ (k, (i : Int) + 1) :: E.drop (atE E k) := by
                rw [HS.out]; unfold insE; rw [if_neg (by rw [hb]; simp)]
              exact h1
            clear hb
            have hat := atE_le E k
            generalize atE E k = at_ at *
            have hsz : w.heap.size ≤ wr.heap.size := HJ.out.bel.size
            have hwr : IntKind.i64.wrap ((i : Int) + 1) = (i : Int) + 1 := by rw [IntKind.wrap_i64]; omega
            rcases (HJ.out.own).2 with ⟨he, h0⟩ | ⟨g, cap, cur, he, _⟩
            · injection he with e1 e2 e3
              subst e1 e3
              obtain rfl : at_ = 0 := by omega
              have HRD1 : Hid (∀ X, Gr wr X → Reads X (fun _ => True) 2 none 0 (ents (E.take 0))) := fun X _ => ⟨rfl, fun h => absurd h (by omega)⟩
              have HRD3 : Hid (∀ X, Gr wr X → Reads X (fun _ => True) 2 none (0 - 0) (ents (E.drop 0))) := fun X _ => ⟨by rw [ents_len, List.length_drop]; omega, fun h => absurd h (by omega)⟩
              go_wp2
              go_region_law
                ((first
                  | (refine step_append0 (by rfl) (.tmp 42) (.tmp 45) 30 (by rfl) wr.heap.size 37 i0 (.agg #[.string ⟨#[]⟩, .int .i64 0]) 2 24 Tryd.underlying30 hi37 HZ.out.1 HZ.out.2.1 HZ.out.2.2 rfl (by decide) _ (by rfl) (by (repeat (first | ((with_reducible refine Blk.new_ _ _ _ ?_); simp; done) | (with_reducible refine Blk.alloc ?_ _) | (with_reducible refine Blk.drew_ ?_) | (with_reducible refine HT4.out _ _ _ ?_) | (with_reducible refine HT9.out _ _ _ ?_)))) (by (first | omega | (simp; done) | (simp; omega))) none 0 0 (ents (E.take 0)) _ (by rfl) (HRD1.out _ (by (repeat (first | (with_reducible exact Chg.refl _ _) | (with_reducible exact HG4.out) | (with_reducible exact HG9.out) | (with_reducible exact HG14.out) | (with_reducible refine Chg.alloc ?_ _) | (with_reducible refine Chg.drew ?_))))) (ents_one _) (fun h => by first | rfl | cases h) (by unfold maxLen; omega) (by omega) ?_
                     intro v1 w1 hO1 hG1
                     have HO4 := hide hO1
                     have HG4 : Hid (Gr wr w1) := Chg.trans (by (repeat (first | (with_reducible exact Chg.refl _ _) | (with_reducible exact HG4.out) | (with_reducible exact HG9.out) | (with_reducible exact HG14.out) | (with_reducible refine Chg.alloc ?_ _) | (with_reducible refine Chg.drew ?_)))) hG1 (fun _ _ h => h)
                     have HT4 := hide hG1.blk
                     have hs1 : wr.heap.size ≤ w1.heap.size := HG4.out.size
                     clear hO1 hG1)
                  | (refine step_appendN (by rfl) (.tmp 46) (.tmp 51) 30 (by rfl) wr.heap.size 37 i0 (.agg #[.string ⟨#[]⟩, .int .i64 0]) 2 24 Tryd.underlying30 hi37 HZ.out.1 HZ.out.2.1 HZ.out.2.2 rfl (by decide) v1 (by rfl) 0 (ents (E.take 0)) (by (repeat (first | (with_reducible exact HO4.out) | (with_reducible exact HO9.out) | (with_reducible refine World.ownsRow.alloc ?_ _) | (with_reducible refine own_drew ?_)))) (Chg.size (S := fun _ => False) (by (repeat (first | (with_reducible exact Chg.refl _ _) | (with_reducible exact HG4.out) | (with_reducible exact HG9.out) | (with_reducible exact HG14.out) | (with_reducible refine Chg.alloc ?_ _) | (with_reducible refine Chg.drew ?_))))) _ 1 1 [.string (S k), .int .i64 ((i : Int) + 1)] (by rfl) rfl (news_blk (t := 37) (cs := #[.string (S k), .int .i64 ((i : Int) + 1)]) (by (repeat (first | ((with_reducible refine Blk.new_ _ _ _ ?_); simp; done) | (with_reducible refine Blk.alloc ?_ _) | (with_reducible refine Blk.drew_ ?_) | (with_reducible refine HT4.out _ _ _ ?_) | (with_reducible refine HT9.out _ _ _ ?_))))) (by simp [Value.oneCell']) (by unfold maxLen; omega) (by omega) ?_
                     intro v2 w2 hO2 hC2 _
                     have HG9 : Hid (Gr wr w2) := Gr.then (by (repeat (first | (with_reducible exact Chg.refl _ _) | (with_reducible exact HG4.out) | (with_reducible exact HG9.out) | (with_reducible exact HG14.out) | (with_reducible refine Chg.alloc ?_ _) | (with_reducible refine Chg.drew ?_)))) hC2.out (fun i hi => ((HO4.out).lt i hi).1)
                     have HO9 := hO2
                     have hs2 : wr.heap.size ≤ w2.heap.size := HG9.out.size
                     clear hO2 hC2)
                  | (refine step_appendG (by rfl) (.tmp 52) (.tmp 55) 30 (by rfl) wr.heap.size 37 i0 (.agg #[.string ⟨#[]⟩, .int .i64 0]) 2 24 Tryd.underlying30 hi37 HZ.out.1 HZ.out.2.1 HZ.out.2.2 rfl (by decide) v2 (by rfl) (0 + 1) _ HO9.out hs2 none (0 - 0) (0 - 0) (ents (E.drop 0)) _ (by rfl) (HRD3.out _ HG9.out) (fun h => by first | rfl | (split at h <;> cases h)) (ents_one _) (by unfold maxLen; omega) (by omega) ?_
                     intro v3 w3 hO3 hC3
                     have HG14 : Hid (Gr wr w3) := Gr.then HG9.out hC3 (fun i hi => ((HO9.out).lt i hi).1)
                     have HO14 := hide hO3
                     clear hO3 hC3)
                  | fail))
              all_goals
                have hfin := HO14.out
                rw [show 0 + 1 + (0 - 0) = E.length + 1 by omega] at hfin
                obtain ⟨RA, rc, rfl, _⟩ := own_reads hfin
                have hst : EsSt w w3 (.slice RA (E.length + 1) rc) (entE ks (i + 1)) := by
                  have h1 := HS2.out
                  have hl : (entE ks (i + 1)).length = E.length + 1 := by rw [h1, List.length_append, List.length_cons, List.length_take, List.length_drop]; omega
                  refine ⟨?_, ((Chg.ofBelow HJ.out.bel (fun _ => False)).trans HG14.out (fun _ _ h => h)).toBelow⟩
                  rw [hl, h1]
                  have h2 := own_base hfin hsz
                  have e : ents (E.take 0) ++ [.string (S k), .int .i64 ((i : Int) + 1)] ++ ents (E.drop 0) = ents (E.take 0 ++ (k, (i : Int) + 1) :: E.drop 0) := by rw [ents_append]; simp [ents]
                  rw [← e]
                  exact h2
                have HE9 := hide hst
                clear hst hfin HO14 HO9 HO4
                go_wp2
                have HE8 : Hid (EsSt w w3 (.slice RA 1 rc) (entE ks (i + 1))) := by
                  have h1 := HE9.out
                  rw [h0] at h1
                  exact h1
                exact ⟨⟨i + 1, by go_num, by omega, HE8⟩, by simp [intOf]; omega⟩
            · injection he with e1 e2 e3
              subst e1 e3
              have hrd := Reads.of_own HJ.out.own
              have HRD1 : Hid (∀ X, Gr wr X → Reads X (fun i => w.heap.size ≤ i) 2 (some ⟨g, 0, none⟩) at_ (ents (E.take at_))) := fun X hX => (hrd.takeE hat).chg hX (fun _ _ _ h => h)
              have HRD3 : Hid (∀ X, Gr wr X → Reads X (fun i => w.heap.size ≤ i) 2 (if c3 = at_ then some ⟨g, 0, none⟩ else some ⟨g, at_ * 2, none⟩) (E.length - at_) (ents (E.drop at_))) := fun X hX => by
                have h1 := (hrd.dropE hat hc3).chg hX (fun _ _ _ h => h)
                rw [add_plain, Nat.zero_add] at h1
                exact h1
              have hac : at_ ≤ c3 := by omega
              have hai : (at_ : Int) ≤ (E.length : Int) := by omega
              clear hrd
              go_wp2
              go_region_law
                ((first
                  | (refine step_append0 (by rfl) (.tmp 42) (.tmp 45) 30 (by rfl) wr.heap.size 37 i0 (.agg #[.string ⟨#[]⟩, .int .i64 0]) 2 24 Tryd.underlying30 hi37 HZ.out.1 HZ.out.2.1 HZ.out.2.2 rfl (by decide) _ (by rfl) (by (repeat (first | ((with_reducible refine Blk.new_ _ _ _ ?_); simp; done) | (with_reducible refine Blk.alloc ?_ _) | (with_reducible refine Blk.drew_ ?_) | (with_reducible refine HT4.out _ _ _ ?_) | (with_reducible refine HT9.out _ _ _ ?_)))) (by (first | omega | (simp; done) | (simp; omega))) (some ⟨g, 0, none⟩) at_ c3 (ents (E.take at_)) _ (by rfl) (HRD1.out _ (by (repeat (first | (with_reducible exact Chg.refl _ _) | (with_reducible exact HG4.out) | (with_reducible exact HG9.out) | (with_reducible exact HG14.out) | (with_reducible refine Chg.alloc ?_ _) | (with_reducible refine Chg.drew ?_))))) (ents_one _) (fun h => by first | rfl | cases h) (by unfold maxLen; omega) (by omega) ?_
                     intro v1 w1 hO1 hG1
                     have HO4 := hide hO1
                     have HG4 : Hid (Gr wr w1) := Chg.trans (by (repeat (first | (with_reducible exact Chg.refl _ _) | (with_reducible exact HG4.out) | (with_reducible exact HG9.out) | (with_reducible exact HG14.out) | (with_reducible refine Chg.alloc ?_ _) | (with_reducible refine Chg.drew ?_)))) hG1 (fun _ _ h => h)
                     have HT4 := hide hG1.blk
                     have hs1 : wr.heap.size ≤ w1.heap.size := HG4.out.size
                     clear hO1 hG1)
                  | (refine step_appendN (by rfl) (.tmp 46) (.tmp 51) 30 (by rfl) wr.heap.size 37 i0 (.agg #[.string ⟨#[]⟩, .int .i64 0]) 2 24 Tryd.underlying30 hi37 HZ.out.1 HZ.out.2.1 HZ.out.2.2 rfl (by decide) v1 (by rfl) at_ (ents (E.take at_)) (by (repeat (first | (with_reducible exact HO4.out) | (with_reducible exact HO9.out) | (with_reducible refine World.ownsRow.alloc ?_ _) | (with_reducible refine own_drew ?_)))) (Chg.size (S := fun _ => False) (by (repeat (first | (with_reducible exact Chg.refl _ _) | (with_reducible exact HG4.out) | (with_reducible exact HG9.out) | (with_reducible exact HG14.out) | (with_reducible refine Chg.alloc ?_ _) | (with_reducible refine Chg.drew ?_))))) _ 1 1 [.string (S k), .int .i64 ((i : Int) + 1)] (by rfl) rfl (news_blk (t := 37) (cs := #[.string (S k), .int .i64 ((i : Int) + 1)]) (by (repeat (first | ((with_reducible refine Blk.new_ _ _ _ ?_); simp; done) | (with_reducible refine Blk.alloc ?_ _) | (with_reducible refine Blk.drew_ ?_) | (with_reducible refine HT4.out _ _ _ ?_) | (with_reducible refine HT9.out _ _ _ ?_))))) (by simp [Value.oneCell']) (by unfold maxLen; omega) (by omega) ?_
                     intro v2 w2 hO2 hC2 _
                     have HG9 : Hid (Gr wr w2) := Gr.then (by (repeat (first | (with_reducible exact Chg.refl _ _) | (with_reducible exact HG4.out) | (with_reducible exact HG9.out) | (with_reducible exact HG14.out) | (with_reducible refine Chg.alloc ?_ _) | (with_reducible refine Chg.drew ?_)))) hC2.out (fun i hi => ((HO4.out).lt i hi).1)
                     have HO9 := hO2
                     have hs2 : wr.heap.size ≤ w2.heap.size := HG9.out.size
                     clear hO2 hC2)
                  | (refine step_appendG (by rfl) (.tmp 52) (.tmp 55) 30 (by rfl) wr.heap.size 37 i0 (.agg #[.string ⟨#[]⟩, .int .i64 0]) 2 24 Tryd.underlying30 hi37 HZ.out.1 HZ.out.2.1 HZ.out.2.2 rfl (by decide) v2 (by rfl) (at_ + 1) _ HO9.out hs2 (if c3 = at_ then some ⟨g, 0, none⟩ else some ⟨g, at_ * 2, none⟩) (E.length - at_) (c3 - at_) (ents (E.drop at_)) _ (by rfl) (HRD3.out _ HG9.out) (fun h => by first | rfl | (split at h <;> cases h)) (ents_one _) (by unfold maxLen; omega) (by omega) ?_
                     intro v3 w3 hO3 hC3
                     have HG14 : Hid (Gr wr w3) := Gr.then HG9.out hC3 (fun i hi => ((HO9.out).lt i hi).1)
                     have HO14 := hide hO3
                     clear hO3 hC3)
                  | fail))
              all_goals
                have hfin := HO14.out
                rw [show at_ + 1 + (E.length - at_) = E.length + 1 by omega] at hfin
                obtain ⟨RA, rc, rfl, _⟩ := own_reads hfin
                have hst : EsSt w w3 (.slice RA (E.length + 1) rc) (entE ks (i + 1)) := by
                  have h1 := HS2.out
                  have hl : (entE ks (i + 1)).length = E.length + 1 := by rw [h1, List.length_append, List.length_cons, List.length_take, List.length_drop]; omega
                  refine ⟨?_, ((Chg.ofBelow HJ.out.bel (fun _ => False)).trans HG14.out (fun _ _ h => h)).toBelow⟩
                  rw [hl, h1]
                  have h2 := own_base hfin hsz
                  have e : ents (E.take at_) ++ [.string (S k), .int .i64 ((i : Int) + 1)] ++ ents (E.drop at_) = ents (E.take at_ ++ (k, (i : Int) + 1) :: E.drop at_) := by rw [ents_append]; simp [ents]
                  rw [← e]
                  exact h2
                have HE9 := hide hst
                clear hst hfin HO14 HO9 HO4
                go_wp2
                exact ⟨⟨i + 1, by go_num, by omega, HE9⟩, by simp [intOf]; omega⟩
    · have hin : i = n := by omega
      subst hin
      go_wp2
      go_ret
      exact ⟨_, rfl, HI.out⟩
end Go.Proofs.YtjekaagjgamfkaaDoor
