/- The walk of spec.put. Under sizes alone. -/
import Derived.Test.YtammpllfmbmdmaaSp1
import Derived.Laws.AppendOwnNone
namespace Go.Proofs.Ytammpllfmbmdmaa
open Go.RowKit

theorem own_set {w : World} {base e size g n cap j : Nat} {xs : List Value} (h : w.ownsRow base e size (.slice (some ⟨g, 0, none⟩) n cap) n xs) (u : Value) :
    (w.setCell ⟨g, j, none⟩ u).ownsRow base e size (.slice (some ⟨g, 0, none⟩) n cap) n (xs.set j u) := by
  obtain ⟨hl, h2⟩ := h
  refine ⟨by rw [List.length_set]; exact hl, ?_⟩
  rcases h2 with ⟨h3, _⟩ | ⟨g', cap', cur, hv, hb, hg, hn, hm, hs, ht⟩
  · cases h3
  · cases hv
    refine .inr ⟨g, cap, cur.setIfInBounds j u, rfl, hb, (show Blk w g e cur from hg).set_ j u, hn, hm, by rw [Array.size_setIfInBounds]; exact hs, ?_⟩
    rw [Array.toList_setIfInBounds, ← ht, List.take_set]

theorem info91 : (Try.prog.info? 91).map (fun i => (i.zero, i.size, i.bytes)) = some (some (.agg #[.int .i64 0, .int .i64 0]), 2, 16) := by kernel_rfl

/-- What spec.put makes of a list. -/
def putS (l : List (Int × Int)) (k v : Int) : List (Int × Int) := match findI l k with | some i => l.set i (k, v) | none => l ++ [(k, v)]

theorem pfl_set : ∀ (l : List (Int × Int)) (i : Nat) (k v : Int), i < l.length → ((pfl l).set (i * 2) (.int .i64 k)).set (i * 2 + 1) (.int .i64 v) = pfl (l.set i (k, v))
  | q :: l, 0, k, v, _ => rfl
  | q :: l, i + 1, k, v, h => by
    have ih := pfl_set l i k v (by simpa using h)
    have e : pfl (q :: l) = .int .i64 q.1 :: .int .i64 q.2 :: pfl l := rfl
    rw [e, show (i + 1) * 2 = i * 2 + 1 + 1 by omega]
    simp only [List.set_cons_succ]
    rw [ih]
    rfl

/-- A row of the call's own holds pairs. -/
theorem pairs_own {w : World} {base n c : Nat} {A : Option Addr} {l : List (Int × Int)} (h : w.ownsRow base 91 2 (.slice A n c) n (pfl l)) : PairsIn w (fun i => base ≤ i) A n c l := by
  have h1 := own_reads h
  obtain ⟨A', c', e, hr⟩ := h1
  cases e
  refine ⟨by have := hr.1; rw [pfl_len] at this; omega, ?_, ?_, hr, ?_⟩
  · rcases h.2 with ⟨h3, h4⟩ | ⟨g, cap, cur, hv, _, _, hn, _⟩
    · omega
    · cases hv; exact hn
  · rcases h.2 with ⟨h3, h4⟩ | ⟨g, cap, cur, hv, _, _, _, hm, _⟩
    · cases h3; simp [maxLen]
    · cases hv; exact hm
  · rintro rfl
    rcases h.2 with ⟨h3, h4⟩ | ⟨g, cap, cur, hv, _⟩
    · cases h3; rfl
    · cases hv

/-- What a call hands back that makes pairs. -/
def PairsOut (l : List (Int × Int)) (w : World) (e : Ending) (w' : World) : Prop :=
  ∃ v', e = .returned v' ∧ w'.ownsRow w.heap.size 91 2 v' l.length (pfl l) ∧ Below w.heap.size w w'

set_option linter.unusedVariables false in
set_option maxHeartbeats 2000000 in
set_option maxRecDepth 100000 in
theorem put_some (K : Nat → Prop) (ad : Addr) (n c : Nat) (l : List (Int × Int)) (k v : Int) (w : World) (h : PairsIn w K (some ad) n c l) (hn : n ≤ 549755813888) :
    Calls Try.prog 63 #[.slice (some ad) n c, .agg #[.int .i64 k, .int .i64 v]] w (PairsOut (putS l k v) w) := by
  obtain ⟨i0, hi, hz0, hz1, hz2⟩ := info_parts info91
  have H := hide (h.more (K' := fun i => i < w.heap.size) (fun _ hi _ => hi))
  have hlen := h.len
  have hc := h.cap
  have hcm := h.max
  have hbx : Blk ((w.alloc (.cells #[.int .i64 k, .int .i64 v] 91)).alloc (.cells #[] 91)) w.heap.size 91 #[.int .i64 k, .int .i64 v] := (Blk.new _ _ _).alloc _
  have hb0 : Below w.heap.size w ((w.alloc (.cells #[.int .i64 k, .int .i64 v] 91)).alloc (.cells #[] 91)) := ((Below.refl _ _).alloc (Nat.le_refl _) _).alloc (by simp) _
  have hown0 : ((w.alloc (.cells #[.int .i64 k, .int .i64 v] 91)).alloc (.cells #[] 91)).ownsRow (w.heap.size + 1) 91 2 (.slice (some ⟨w.heap.size + 1, 0, none⟩) 0 0) 0 [] := by
    have := World.ownsRow_made (w.alloc (.cells #[.int .i64 k, .int .i64 v] 91)) (e := 91) (size := 2) (base := w.heap.size + 1) #[] 0 (by simp) (by simp [maxLen]) rfl
    rw [World.size_alloc] at this
    exact this
  have HBX := hide hbx
  have HB0 := hide hb0
  have HO0 := hide hown0
  have HIN := hide (H.out.keep hb0.size (fun p hp _ => hb0.cell hp))
  clear h hbx hb0 hown0
  unfold maxLen at hcm
  go_enter Try.func63, Try.ntmps63
  go_wp2_with (at_builtin; go_must (refine wpList_append_own _ rfl _ _ 48 rfl (w.heap.size + 1) 91 i0 _ 2 16 Try.underlying48 hi hz0 hz1 hz2 rfl (by decide) _ 0 [] rfl HO0.out ad n c (pfl l) rfl (by rw [pfl_len, hlen]) ?_ (pfl_one l) (by unfold maxLen; omega) (by omega) (by simp) ?_))
  · intro j u hj
    have hn0 : 0 < n := by
      have := (List.getElem?_eq_some_iff.1 hj).1
      rw [pfl_len] at this
      omega
    obtain ⟨ad', e, _, _, hc⟩ := HIN.out.reads.2 hn0
    cases e
    exact hc j u hj
  intro v2 w2 ho2 hg2 _
  have hx2 : Blk w2 w.heap.size 91 #[.int .i64 k, .int .i64 v] := (hg2.block _ HBX.out.lt (fun e => by simp [Value.ownBlock] at e)).trans HBX.out
  have hb2 : Below w.heap.size w w2 := HB0.out.grown hg2 HB0.out.size (fun g hg => by simp [Value.ownBlock] at hg; omega)
  have x0 : w2.cell? ⟨w.heap.size, 0, none⟩ = some (.int .i64 k) := by rw [hx2.cell]; rfl
  have x1 : w2.cell? ⟨w.heap.size, 1, none⟩ = some (.int .i64 v) := by rw [hx2.cell]; rfl
  obtain ⟨A2, c2, rfl, _⟩ := own_reads ho2
  have HP2 := hide (pairs_own ho2)
  have HO2 := hide ho2
  have HX2 := hide hx2
  have HB2 := hide hb2
  clear ho2 hg2 hx2 hb2
  have hfind := find_any _ A2 n c2 l k w2 HP2.out hn
  have HF := hide hfind
  clear hfind
  go_wp2_with fail
  refine HF.out.mono ?_
  rintro e w3 ⟨rfl, hb3⟩
  have hx3 := HX2.out.below hb3 HX2.out.lt
  have x0 : w3.cell? ⟨w.heap.size, 0, none⟩ = some (.int .i64 k) := by rw [hx3.cell]; rfl
  have x1 : w3.cell? ⟨w.heap.size, 1, none⟩ = some (.int .i64 v) := by rw [hx3.cell]; rfl
  have HO3 := hide (own_chg HO2.out (Chg.ofBelow hb3 (fun _ => False)) (fun _ _ h => h))
  have HB3 := hide (HB2.out.trans (hb3.mono HB2.out.size))
  clear hb3 hx3
  cases hf : findI l k with
  | some i =>
    have hfz : findZ l k = (i : Int) := by unfold findZ; rw [hf]
    have hil : i < l.length := by
      unfold findI at hf
      exact (List.findIdx?_eq_some_iff_getElem.1 hf).1
    have hin : i < n := by omega
    have hput : putS l k v = l.set i (k, v) := by unfold putS; rw [hf]
    rcases HO3.out.2 with ⟨_, h0⟩ | ⟨g, cap, cur, hv, hgb, _⟩
    · omega
    cases hv
    have hq : l[i]? = some l[i] := List.getElem?_eq_getElem hil
    have hfn : g ≠ w.heap.size := by omega
    have r0 : w3.cell? ⟨g, i * 2, none⟩ = some (.int .i64 l[i].1) := by
      have := HO3.out.cells (g := g) rfl _ _ (pfl_at hq).1
      rwa [add_plain, Nat.zero_add] at this
    have r1 : w3.cell? ⟨g, i * 2 + 1, none⟩ = some (.int .i64 l[i].2) := by
      have := HO3.out.cells (g := g) rfl _ _ (pfl_at hq).2
      rwa [add_plain, Nat.zero_add] at this
    have rf0 := HO3.out.frozenAt (i * 2)
    have rf1 := HO3.out.frozenAt (i * 2 + 1)
    have hnn : (0 : Int) ≤ (i : Int) := by omega
    have hnl : (i : Int) < (n : Int) := by omega
    have HFIN : Hid (PairsOut (l.set i (k, v)) w (.returned (.slice (some ⟨g, 0, none⟩) n c2)) ((w3.setCell ⟨g, i * 2, none⟩ (.int .i64 k)).setCell ⟨g, i * 2 + 1, none⟩ (.int .i64 v))) := by
      refine ⟨_, rfl, ?_, (HB3.out.setCell (p := ⟨g, i * 2, none⟩) (by show w.heap.size ≤ g; omega) _).setCell (p := ⟨g, i * 2 + 1, none⟩) (by show w.heap.size ≤ g; omega) _⟩
      have h1 := own_set (own_set HO3.out (j := i * 2) (.int .i64 k)) (j := i * 2 + 1) (.int .i64 v)
      rw [pfl_set l i k v hil] at h1
      rw [List.length_set, hlen]
      exact own_base h1 (Nat.le_succ _)
    rw [hfz]
    clear hf hfz HO3 HP2 HO2 HF
    go_wp2
    go_ret
    rw [hput]
    exact HFIN.out
  | none =>
    have hfz : findZ l k = -1 := by unfold findZ; rw [hf]
    have hput : putS l k v = l ++ [(k, v)] := by unfold putS; rw [hf]
    rw [hfz]
    go_wp2_with (at_builtin; go_must (refine wpList_append_own _ rfl _ _ 48 rfl (w.heap.size + 1) 91 i0 _ 2 16 Try.underlying48 hi hz0 hz1 hz2 rfl (by decide) (.slice A2 n c2) n (pfl l) rfl (HO3.out.alloc _) ⟨w3.heap.size, 0, none⟩ 1 1 [.int .i64 k, .int .i64 v] rfl rfl (cells_new w3 [.int .i64 k, .int .i64 v] 91) (by simp [Value.oneCell']) (by unfold maxLen; omega) (by omega) (by have := HB3.out.size; have h2 := HX2.out.lt; simp; omega) ?_))
    intro v4 w4 ho4 hg4 _
    have hb4 : Below w.heap.size w w4 := (HB3.out.alloc HB3.out.size _).grown hg4 (by have := HB3.out.size; simp; omega) (fun g hg => by have := (HO3.out.lt g hg).1; omega)
    have HFIN : Hid (PairsOut (l ++ [(k, v)]) w (.returned v4) w4) := by
      refine ⟨_, rfl, ?_, hb4⟩
      rw [pfl_append, List.length_append, hlen]
      exact own_base ho4 (Nat.le_succ _)
    clear ho4 hg4 hb4
    go_wp2
    go_ret
    rw [hput]
    exact HFIN.out

set_option linter.unusedVariables false in
set_option maxHeartbeats 2000000 in
set_option maxRecDepth 100000 in
theorem put_none (k v : Int) (w : World) :
    Calls Try.prog 63 #[.slice none 0 0, .agg #[.int .i64 k, .int .i64 v]] w (PairsOut (putS [] k v) w) := by
  obtain ⟨i0, hi, hz0, hz1, hz2⟩ := info_parts info91
  have hbx : Blk ((w.alloc (.cells #[.int .i64 k, .int .i64 v] 91)).alloc (.cells #[] 91)) w.heap.size 91 #[.int .i64 k, .int .i64 v] := (Blk.new _ _ _).alloc _
  have hb0 : Below w.heap.size w ((w.alloc (.cells #[.int .i64 k, .int .i64 v] 91)).alloc (.cells #[] 91)) := ((Below.refl _ _).alloc (Nat.le_refl _) _).alloc (by simp) _
  have hown0 : ((w.alloc (.cells #[.int .i64 k, .int .i64 v] 91)).alloc (.cells #[] 91)).ownsRow (w.heap.size + 1) 91 2 (.slice (some ⟨w.heap.size + 1, 0, none⟩) 0 0) 0 [] := by
    have := World.ownsRow_made (w.alloc (.cells #[.int .i64 k, .int .i64 v] 91)) (e := 91) (size := 2) (base := w.heap.size + 1) #[] 0 (by simp) (by simp [maxLen]) rfl
    rw [World.size_alloc] at this
    exact this
  have HF := hide (find_any _ (some ⟨w.heap.size + 1, 0, none⟩) 0 0 [] k ((w.alloc (.cells #[.int .i64 k, .int .i64 v] 91)).alloc (.cells #[] 91)) (pairs_own hown0) (by omega))
  have HBX := hide hbx
  have HB0 := hide hb0
  have HO0 := hide hown0
  clear hbx hb0 hown0
  go_enter Try.func63, Try.ntmps63
  go_wp2_with fail
  generalize (w.alloc (.cells #[.int .i64 k, .int .i64 v] 91)).alloc (.cells #[] 91) = w2 at *
  refine HF.out.mono ?_
  rintro e w3 ⟨rfl, hb3⟩
  have hx3 := HBX.out.below hb3 HBX.out.lt
  have x0 : w3.cell? ⟨w.heap.size, 0, none⟩ = some (.int .i64 k) := by rw [hx3.cell]; rfl
  have x1 : w3.cell? ⟨w.heap.size, 1, none⟩ = some (.int .i64 v) := by rw [hx3.cell]; rfl
  have HO3 := hide (own_chg HO0.out (Chg.ofBelow hb3 (fun _ => False)) (fun _ _ h => h))
  have HB3 := hide (HB0.out.trans (hb3.mono HB0.out.size))
  have hxl := hx3.lt
  clear hb3 hx3
  have hfz : findZ [] k = -1 := rfl
  rw [hfz]
  go_wp2_with (at_builtin; go_must (refine wpList_append_own _ rfl _ _ 48 rfl (w.heap.size + 1) 91 i0 _ 2 16 Try.underlying48 hi hz0 hz1 hz2 rfl (by decide) (.slice (some ⟨w.heap.size + 1, 0, none⟩) 0 0) 0 [] rfl (HO3.out.alloc _) ⟨w3.heap.size, 0, none⟩ 1 1 [.int .i64 k, .int .i64 v] rfl rfl (cells_new w3 [.int .i64 k, .int .i64 v] 91) (by simp [Value.oneCell']) (by unfold maxLen; omega) (by omega) (by simp; omega) ?_))
  intro v4 w4 ho4 hg4 _
  have hb4 : Below w.heap.size w w4 := (HB3.out.alloc HB3.out.size _).grown hg4 (by have := HB3.out.size; simp; omega) (fun g hg => by have := (HO3.out.lt g hg).1; omega)
  have HFIN : Hid (PairsOut (putS [] k v) w (.returned v4) w4) := ⟨_, rfl, own_base ho4 (Nat.le_succ _), hb4⟩
  clear ho4 hg4 hb4
  go_wp2
  go_ret
  exact HFIN.out

theorem put_pairs (K : Nat → Prop) (A : Option Addr) (n c : Nat) (l : List (Int × Int)) (k v : Int) (w : World) (h : PairsIn w K A n c l) (hn : n ≤ 549755813888) :
    Calls Try.prog 63 #[.slice A n c, .agg #[.int .i64 k, .int .i64 v]] w (PairsOut (putS l k v) w) := by
  cases A with
  | some ad => exact put_some K ad n c l k v w h hn
  | none =>
    obtain rfl := h.nil_ rfl
    have hn0 : n = 0 := by have := h.cap; omega
    subst hn0
    obtain rfl : l = [] := List.eq_nil_of_length_eq_zero h.len
    exact put_none k v w
end Go.Proofs.Ytammpllfmbmdmaa
