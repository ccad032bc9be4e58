/- The law FnMapsHash: it answers true for every modulus and all steps. Under no condition but that the modulus is an int. -/
import Derived.Test.YtammpllfmbmdmaaMlaw
import Derived.Test.YtammpllfmbmdmaaWk
import Derived.Test.YtammpllfmbmdmaaRst
import Derived.Laws.AppendOwnNone
import Derived.BigQuiet
import Derived.Deep.QuietTactic
namespace Go.Proofs.Ytammpllfmbmdmaa
open Go.RowKit

def stEq : StepD := ⟨5, 0, 0, 0, 0, 0, 0, []⟩
def stH0 : StepD := ⟨7, 0, 0, 0, 0, 0, 0, []⟩
def stH1 : StepD := ⟨7, 1, 0, 0, 0, 0, 0, []⟩
abbrev three : List StepD := [stEq, stH0, stH1]
abbrev cellsT3 : List Value := [.int .i64 5, .int .i64 0, .int .i64 0, .int .i64 0, .int .i64 0, .int .i64 0, .int .i64 0, .slice none 0 0,
  .int .i64 7, .int .i64 0, .int .i64 0, .int .i64 0, .int .i64 0, .int .i64 0, .int .i64 0, .slice none 0 0,
  .int .i64 7, .int .i64 1, .int .i64 0, .int .i64 0, .int .i64 0, .int .i64 0, .int .i64 0, .slice none 0 0]

theorem three_at {j : Nat} {s : StepD} (h : three[j]? = some s) : s.list = [] ∧ ∀ q, q < 8 → cellsT3[j * 8 + q]? = (s.cells (.slice none 0 0))[q]? := by
  have hj : j = 0 ∨ j = 1 ∨ j = 2 := by
    have := (List.getElem?_eq_some_iff.1 h).1
    simp at this
    omega
  rcases hj with rfl | rfl | rfl
  all_goals
    simp at h
    subst h
    refine ⟨rfl, fun q hq => ?_⟩
    have : q = 0 ∨ q = 1 ∨ q = 2 ∨ q = 3 ∨ q = 4 ∨ q = 5 ∨ q = 6 ∨ q = 7 := by omega
    rcases this with rfl | rfl | rfl | rfl | rfl | rfl | rfl | rfl <;> rfl

/-- The steps, and the three behind them, in the row that the law has laid. -/
theorem steps_three {W w3 : World} {B base k c : Nat} {ad : Addr} {A : Option Addr} {S : List StepD} (hs : StepsIn W (fun i => i < B) (some ad) k S) (hb : Below B W w3) (ho : w3.ownsRow base 29 8 (.slice A (k + 3) c) (k + 3) (cellsOf W ad (k * 8) ++ cellsT3)) :
    StepsIn w3 (fun _ => True) A (k + 3) (S ++ three) := by
  refine row_steps ho (by rw [List.length_append, hs.1]; rfl) fun i s hi => ?_
  by_cases hik : i < k
  · rw [List.getElem?_append_left (by rw [hs.1]; exact hik)] at hi
    obtain ⟨ad', s', LA, lc, e, hx, hst⟩ := hs.2 i hik
    cases e
    obtain rfl : s' = s := Option.some.inj (hx.symm.trans hi)
    refine ⟨LA, lc, (hst.sl.keep hb.size (fun p _ hk => hb.cell hk)).more (fun _ _ _ => trivial), fun q hq => ?_⟩
    rw [List.getElem?_append_left (by rw [cellsOf_len]; omega), cellsOf_at (by omega)]
    obtain ⟨h1, u, h2, _⟩ := hst.at_ hq
    rw [h1, h2]; rfl
  · rw [List.getElem?_append_right (by rw [hs.1]; omega), hs.1] at hi
    obtain ⟨hl, hq⟩ := three_at hi
    refine ⟨none, 0, by rw [hl]; exact SliceIs.none_, fun q hq8 => ?_⟩
    rw [List.getElem?_append_right (by rw [cellsOf_len]; omega), cellsOf_len, show i * 8 + q - k * 8 = (i - k) * 8 + q by omega, hq q hq8, hl]
    rfl

theorem below_drewN' {B : Nat} {w w' : World} (h : Below B w w') (n : Nat) : Below B w (w'.drewN n) := ⟨h.os, h.tape, h.output, h.size, h.block⟩

theorem steps_three0 {w3 : World} {base c : Nat} {A : Option Addr} (ho : w3.ownsRow base 29 8 (.slice A 3 c) 3 cellsT3) : StepsIn w3 (fun _ => True) A 3 ([] ++ three) := by
  refine row_steps ho rfl fun i s hi => ?_
  obtain ⟨hl, hq⟩ := three_at (by simpa using hi)
  exact ⟨none, 0, by rw [hl]; exact SliceIs.none_, fun q hq8 => by rw [hq q hq8, hl]; rfl⟩

/-- The last three answers. -/
theorem last_three (md : Int) (S : List StepD) (hk : S.length ≤ 300) : goodM md ([], []) (S ++ three) ∧ ∃ ok n0 n1, (outsM md ([], []) (S ++ three))[S.length]? = some ⟨0, ok, [], false⟩ ∧ (outsM md ([], []) (S ++ three))[S.length + 1]? = some ⟨n0, false, [], false⟩ ∧
    (outsM md ([], []) (S ++ three))[S.length + 2]? = some ⟨n1, false, [], false⟩ ∧ (ok = true → n0 = n1) := by
  refine ⟨goodM_of (K := (S ++ three).map (·.key)) (by simp; omega) (S ++ three) ([], []) OkL.nil OkL.nil (fun s hs => List.mem_map.2 ⟨s, hs, rfl⟩), ?_⟩
  obtain ⟨h0, h1⟩ := endM_ok (md := md) (K := S.map (·.key)) S ([], []) OkL.nil OkL.nil (fun s hs => List.mem_map.2 ⟨s, hs, rfl⟩)
  refine ⟨eqA (endM md ([], []) S).1 (endM md ([], []) S).2, hashL md (endM md ([], []) S).1, hashL md (endM md ([], []) S).2, ?_, ?_, ?_, fun h => eqA_hash h0 h1 h⟩
  all_goals
    rw [outsM_append, List.getElem?_append_right (by rw [outsM_len]; omega), outsM_len]
    simp [outsM, stepM, stpM, stEq, stH0, stH1]

set_option linter.unusedVariables false in
set_option maxHeartbeats 2000000 in
set_option maxRecDepth 100000 in
theorem mapsHash_is (md : Int) (ad : Addr) (k c : Nat) (S : List StepD) (w : World) (hmd : okI md) (hs : StepsIn w (fun _ => True) (some ad) k S) (hk : k ≤ 300) (hkc : k ≤ c) (hcm : c ≤ maxLen) (hfit : fitsS k S = true) :
    Calls Try.prog 9 #[.int .i64 md, .slice (some ad) k c] w fun e w' => e = .returned (.bool true) ∧ Below w.heap.size w w' := by
  have hfits := fits4_any _ (some ad) k c S w hs (by unfold maxLen; omega)
  rw [hfit] at hfits
  have HS := hide hs.old
  have hSl : S.length = k := hs.1
  obtain ⟨i0, hi, hz0, hz1, hz2⟩ := info_parts info29
  have hkk : ¬ (300 : Int) < (k : Int) := by omega
  have hk3 : IntKind.i64.wrap ((k : Int) + 3) = (k : Int) + 3 := by rw [IntKind.wrap_i64]; omega
  have hk1 : IntKind.i64.wrap ((k : Int) + 1) = (k : Int) + 1 := by rw [IntKind.wrap_i64]; omega
  have hk2 : IntKind.i64.wrap ((k : Int) + 2) = (k : Int) + 2 := by rw [IntKind.wrap_i64]; omega
  clear hs
  go_enter Try.func9, Try.ntmps9
  go_wp2_with fail
  refine hfits.mono ?_
  rintro e w1 ⟨rfl, hb1⟩
  have HB1 := hide hb1
  have hb2 : Below w.heap.size w (w1.alloc (.cells #[] 29)) := hb1.alloc hb1.size _
  have hsA : StepsIn (w1.alloc (.cells #[] 29)) (fun i => i < w.heap.size) (some ad) k S := HS.out.keep hb2.size (fun p hp _ => hb2.cell hp)
  have HB2 := hide hb2
  have hown0 : (w1.alloc (.cells #[] 29)).ownsRow w1.heap.size 29 8 (.slice (some ⟨w1.heap.size, 0, none⟩) 0 0) 0 [] := World.ownsRow_made w1 #[] 0 (Nat.le_refl _) (by simp [maxLen]) rfl
  have HSA := hide hsA
  have HO0 := hide hown0
  clear hb1 hb2 hfits hsA hown0
  go_wp2_with (at_builtin; go_must (refine wpList_append_own _ rfl _ _ 22 rfl w1.heap.size 29 i0 _ 8 80 Try.underlying22 hi hz0 hz1 hz2 rfl (by decide) _ 0 [] rfl HO0.out ad k c (cellsOf (w1.alloc (.cells #[] 29)) ad (k * 8)) rfl (cellsOf_len _ _ _) ?_ ?_ (by unfold maxLen; omega) (by omega) (by simp) ?_))
  · intro j u hj
    have hjl : j < k * 8 := by
      have := (List.getElem?_eq_some_iff.1 hj).1
      rwa [cellsOf_len] at this
    obtain ⟨u', h1, _⟩ := HSA.out.news hjl
    rw [cellsOf_at hjl, h1] at hj
    rw [h1]; exact hj
  · intro u hu
    obtain ⟨j, hj⟩ := List.mem_iff_getElem?.1 hu
    have hjl : j < k * 8 := by
      have := (List.getElem?_eq_some_iff.1 hj).1
      rwa [cellsOf_len] at this
    obtain ⟨u', h1, h2⟩ := HSA.out.news hjl
    rw [cellsOf_at hjl, h1] at hj
    cases hj; exact h2
  intro v2 w2 ho2 hg2 _
  have hb3 : Below w.heap.size (w1.alloc (.cells #[] 29)) w2 := (Below.refl _ _).grown hg2 HB2.out.size (fun g hg => by
    have e : w1.heap.size = g := Option.some.inj hg
    have := HB1.out.size
    omega)
  have HW2 : Hid (w1.heap.size ≤ w2.heap.size) := by
    have := hg2.size
    rw [World.size_alloc] at this
    show _ ≤ _
    omega
  generalize hX : cellsOf (w1.alloc (.cells #[] 29)) ad (k * 8) = X at *
  have HX := hide hX
  have HO2 := hide ho2
  have HB3 := hide hb3
  clear ho2 hg2 hX hb3
  go_wp2_with (at_builtin; go_must (refine wpList_append_own _ rfl _ _ 22 rfl w1.heap.size 29 i0 _ 8 80 Try.underlying22 hi hz0 hz1 hz2 rfl (by decide) v2 k X rfl (HO2.out.alloc _) ⟨w2.heap.size, 0, none⟩ 3 3 cellsT3 rfl rfl (cells_new w2 cellsT3 29) ?_ (by unfold maxLen; omega) (by omega) (by have := HW2.out; simp; omega) ?_))
  · intro u hu
    simp at hu
    rcases hu with rfl | rfl | rfl | rfl | rfl | rfl | rfl | rfl | rfl | rfl | rfl | rfl | rfl | rfl | rfl | rfl | rfl | rfl | rfl | rfl | rfl | rfl | rfl | rfl <;> rfl
  intro v3 w3 ho3 hg3 _
  have hb4 : Below w.heap.size (w1.alloc (.cells #[] 29)) w3 := (HB3.out.alloc (Nat.le_trans HB2.out.size HB3.out.size) _).grown hg3 (by have h1 := HB2.out.size; have h2 := HB3.out.size; rw [World.size_alloc]; omega) (fun g hg => by
    have h1 := (HO2.out.lt g hg).1
    have h2 := HB1.out.size
    omega)
  have hb5 : Below w.heap.size w w3 := HB2.out.trans hb4
  obtain ⟨A3, c3, rfl, _⟩ := own_reads ho3
  rw [← HX.out] at ho3
  have hst3 := steps_three HSA.out hb4 ho3
  obtain ⟨hgood, ok, n0, n1, q0, q1, q2, q3⟩ := last_three md S (by omega)
  have hcall := maps_walk md A3 (k + 3) c3 (S ++ three) w3 hmd hst3 (by omega) hgood
  have HQ : Hid ((outsM md ([], []) (S ++ three)).length = k + 3) := by
    show _ = _
    rw [outsM_len, List.length_append, hSl]; rfl
  rw [hSl] at q0 q1 q2
  have HCALL := hide hcall
  have HB5 := hide hb5
  generalize outsM md ([], []) (S ++ three) = L at *
  have Q0 := hide q0
  have Q1 := hide q1
  have Q2 := hide q2
  have Q3 := hide q3
  clear hb4 hb5 ho3 hg3 hst3 hgood hcall q0 q1 q2 q3
  go_wp2_with fail
  refine HCALL.out.mono ?_
  rintro e w4 ⟨RA, rc, rfl, hm, hans, hb6⟩
  rw [HQ.out] at hans ⊢
  obtain ⟨ad4, a0, LA0, lc0, rfl, hx0, hat0⟩ := hans.2 k (by omega)
  obtain ⟨ad4', a1, LA1, lc1, e1, hx1, hat1⟩ := hans.2 (k + 1) (by omega)
  cases e1
  obtain ⟨ad4', a2, LA2, lc2, e2, hx2, hat2⟩ := hans.2 (k + 2) (by omega)
  cases e2
  obtain rfl := Option.some.inj (hx0.symm.trans Q0.out)
  obtain rfl := Option.some.inj (hx1.symm.trans Q1.out)
  obtain rfl := Option.some.inj (hx2.symm.trans Q2.out)
  have z1 := hat0.c1
  have z2 := hat1.c0
  have z3 := hat2.c0
  have HB6 : Hid (Below w.heap.size w w4) := HB5.out.trans (hb6.mono HB5.out.size)
  clear hans hx0 hx1 hx2 hat0 hat1 hat2 hb6 hm
  cases hok : ok
  · subst hok
    go_wp2_with fail
    go_quiet (fail)
    go_wp2
    go_ret
    exact ⟨rfl, below_drewN' HB6.out _⟩
  · subst hok
    have hn := Q3.out rfl
    subst hn
    go_wp2_with fail
    go_quiet (fail)
    go_wp2
    go_ret
    exact ⟨rfl, below_drewN' HB6.out _⟩
set_option linter.unusedVariables false in
set_option maxHeartbeats 2000000 in
set_option maxRecDepth 100000 in
theorem mapsHash_none (md : Int) (w : World) (hmd : okI md) :
    Calls Try.prog 9 #[.int .i64 md, .slice none 0 0] w fun e w' => e = .returned (.bool true) ∧ Below w.heap.size w w' := by
  have hfits := fits4_any (fun _ => True) none 0 0 [] w ⟨rfl, fun i hi => by omega⟩ (by simp [maxLen])
  have hfit : fitsS 0 [] = true := by simp [fitsS]
  rw [hfit] at hfits
  obtain ⟨i0, hi, hz0, hz1, hz2⟩ := info_parts info29
  go_enter Try.func9, Try.ntmps9
  go_wp2_with fail
  refine hfits.mono ?_
  rintro e w1 ⟨rfl, hb1⟩
  have HB1 := hide hb1
  have hb2 : Below w.heap.size w (w1.alloc (.cells #[] 29)) := hb1.alloc hb1.size _
  have hown0 : (w1.alloc (.cells #[] 29)).ownsRow w1.heap.size 29 8 (.slice (some ⟨w1.heap.size, 0, none⟩) 0 0) 0 [] := World.ownsRow_made w1 #[] 0 (Nat.le_refl _) (by simp [maxLen]) rfl
  have HO0 := hide hown0
  have HB2 := hide hb2
  clear hb1 hb2 hfits hown0
  go_wp2_with (at_builtin; first | (refine wpList_append_own_none rfl _ _ 22 rfl w1.heap.size 29 i0 8 Try.underlying22 hi _ 0 [] rfl HO0.out rfl ?_) | (refine wpList_append_own _ rfl _ _ 22 rfl w1.heap.size 29 i0 _ 8 80 Try.underlying22 hi hz0 hz1 hz2 rfl (by decide) _ 0 [] rfl (HO0.out.alloc _) ⟨w1.heap.size + 1, 0, none⟩ 3 3 cellsT3 rfl rfl (by have h := cells_new (w1.alloc (.cells #[] 29)) cellsT3 29; rw [World.size_alloc] at h; exact h) ?_ (by unfold maxLen; omega) (by omega) (by simp; omega) ?_))
  · intro u hu
    simp at hu
    rcases hu with rfl | rfl | rfl | rfl | rfl | rfl | rfl | rfl | rfl | rfl | rfl | rfl | rfl | rfl | rfl | rfl | rfl | rfl | rfl | rfl | rfl | rfl | rfl | rfl <;> rfl
  intro v3 w3 ho3 hg3 _
  have hb5 : Below w.heap.size w w3 := (HB2.out.alloc HB2.out.size _).grown hg3 (by have h1 := HB2.out.size; rw [World.size_alloc]; omega) (fun g hg => by
    have e : w1.heap.size = g := Option.some.inj hg
    have := HB1.out.size
    omega)
  obtain ⟨A3, c3, rfl, _⟩ := own_reads ho3
  have hst3 := steps_three0 ho3
  obtain ⟨hgood, ok, n0, n1, q0, q1, q2, q3⟩ := last_three md [] (by simp)
  have hcall := maps_walk md A3 3 c3 ([] ++ three) w3 hmd hst3 (by omega) hgood
  have HQ : Hid ((outsM md ([], []) ([] ++ three)).length = 3) := by
    show _ = _
    rw [outsM_len]; rfl
  simp only [List.length_nil, Nat.zero_add] at q0 q1 q2
  have HCALL := hide hcall
  have HB5 := hide hb5
  generalize outsM md ([], []) ([] ++ three) = L at *
  have Q0 := hide q0
  have Q1 := hide q1
  have Q2 := hide q2
  have Q3 := hide q3
  clear hb5 ho3 hg3 hst3 hgood hcall q0 q1 q2 q3
  go_wp2_with fail
  refine HCALL.out.mono ?_
  rintro e w4 ⟨RA, rc, rfl, hm, hans, hb6⟩
  rw [HQ.out] at hans ⊢
  obtain ⟨ad4, a0, LA0, lc0, rfl, hx0, hat0⟩ := hans.2 0 (by omega)
  obtain ⟨ad4', a1, LA1, lc1, e1, hx1, hat1⟩ := hans.2 1 (by omega)
  cases e1
  obtain ⟨ad4', a2, LA2, lc2, e2, hx2, hat2⟩ := hans.2 2 (by omega)
  cases e2
  obtain rfl := Option.some.inj (hx0.symm.trans Q0.out)
  obtain rfl := Option.some.inj (hx1.symm.trans Q1.out)
  obtain rfl := Option.some.inj (hx2.symm.trans Q2.out)
  have z1 : w4.cell? ⟨ad4.block, ad4.off + 1, none⟩ = some (.bool ok) := hat0.c1
  have z2 : w4.cell? ⟨ad4.block, ad4.off + 4, none⟩ = some (.int .i64 n0) := by
    have := hat1.c0
    rwa [add_pos ad4 (q := 1 * 4) (by omega)] at this
  have z3 : w4.cell? ⟨ad4.block, ad4.off + 8, none⟩ = some (.int .i64 n1) := by
    have := hat2.c0
    rwa [add_pos ad4 (q := 2 * 4) (by omega)] at this
  have HB6 : Hid (Below w.heap.size w w4) := HB5.out.trans (hb6.mono HB5.out.size)
  clear hans hx0 hx1 hx2 hat0 hat1 hat2 hb6 hm
  cases hok : ok
  · subst hok
    go_wp2_with fail
    go_quiet (fail)
    go_wp2
    go_ret
    exact ⟨rfl, below_drewN' HB6.out _⟩
  · subst hok
    have hn := Q3.out rfl
    subst hn
    go_wp2_with fail
    go_quiet (fail)
    go_wp2
    go_ret
    exact ⟨rfl, below_drewN' HB6.out _⟩

set_option maxHeartbeats 1000000 in
theorem mapsHash_rest (md : Int) (A : Option Addr) (k c : Nat) (S : List StepD) (w : World) (hs : StepsIn w (fun _ => True) A k S) (hk : k ≤ maxLen) (hfit : fitsS k S = true) (h : 300 < k) :
    Calls Try.prog 9 #[.int .i64 md, .slice A k c] w fun e w' => e = .returned (.bool true) ∧ Below w.heap.size w w' := by
  have hfits := fits4_any _ A k c S w hs hk
  rw [hfit] at hfits
  have hkk : (300 : Int) < (k : Int) := by omega
  have hk2 := hk
  unfold maxLen at hk2
  clear hs hfit
  go_enter Try.func9, Try.ntmps9
  go_wp2_with fail
  refine hfits.mono ?_
  rintro e w1 ⟨rfl, hb1⟩
  have HB1 := hide hb1
  have hs1 := hb1.size
  clear hb1 hfits
  go_wp2_with fail
  refine (works_any w1).mono ?_
  rintro e w2 ⟨rfl, hb2⟩
  have HB2 := hide hb2
  clear hb2
  go_wp2
  go_ret
  exact ⟨rfl, HB1.out.trans (HB2.out.mono hs1)⟩

set_option maxHeartbeats 1000000 in
theorem fnMapsHash_any (md : Int) (A : Option Addr) (k c : Nat) (S : List StepD) (w : World) (hmd : okI md) (hs : StepsIn w (fun _ => True) A k S) (hk : k ≤ maxLen) (hkc : k ≤ c) (hcm : c ≤ maxLen) (hnil : A = none → c = 0) :
    Calls Try.prog 9 #[.int .i64 md, .slice A k c] w fun e w' => e = .returned (.bool true) ∧ Below w.heap.size w w' := by
  by_cases hfit : fitsS k S = true
  · by_cases h3 : 300 < k
    · exact mapsHash_rest md A k c S w hs hk hfit h3
    · cases A with
      | none =>
        have hc := hnil rfl
        subst hc
        have hk0 : k = 0 := by omega
        subst hk0
        exact mapsHash_none md w hmd
      | some ad => exact mapsHash_is md ad k c S w hmd hs (by omega) hkc hcm hfit
  · have hfit' : fitsS k S = false := by simpa using hfit
    have hfits := fits4_any _ A k c S w hs hk
    rw [hfit'] at hfits
    have hk2 := hk
    unfold maxLen at hk2
    clear hfit hfit' hs
    go_enter Try.func9, Try.ntmps9
    go_wp2_with fail
    refine hfits.mono ?_
    rintro e w1 ⟨rfl, hb1⟩
    have HB1 := hide hb1
    clear hb1 hfits
    go_wp2_with fail
    go_ret
    exact ⟨rfl, HB1.out⟩
end Go.Proofs.Ytammpllfmbmdmaa
