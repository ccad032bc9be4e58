/- The walk of the law FnTrie. Under sizes alone. -/
import Derived.Test.YtjekaagjgamfkaaDoorB1
import Derived.Test.YtjekaagjgamfkaaDoorSe
import Derived.Test.YtjekaagjgamfkaaDoorEi
namespace Go.Proofs.YtjekaagjgamfkaaDoor
open Go.RowKit T
attribute [local go_sem] S_size S_toList E_toList S_extract

theorem below_drew {w w' : World} (h : Below w.heap.size w w') : Below w.heap.size w w'.drew := ((Chg.ofBelow h (fun _ => False)).drew).toBelow
/-- impl.Trie of the one key 'a' and no text: one entry. -/
theorem sane_any (w : World) (her : ∃ et ep, w.cell? ⟨0, 0, none⟩ = some (.iface et ep)) :
    Calls Tryd.prog 6 #[.slice (some ⟨w.heap.size, 0, none⟩) 1 1, .string ⟨#[]⟩, .int .i64 0, .bool false] (w.alloc (.cells #[.string ⟨#[97]⟩] 9)) fun e w' =>
      ∃ vp vs b1 b2 vv A c, e = .returned (.agg #[vp, vs, .bool b1, .bool b2, vv, .slice A 1 c]) ∧ Below w.heap.size w w' := by
  obtain ⟨et, ep, hec⟩ := her
  have hg : Chg (fun _ => False) w (w.alloc (.cells #[.string ⟨#[97]⟩] 9)) := (Chg.refl (fun _ => False) w).alloc _
  have hst : StrsIn (w.alloc (.cells #[.string ⟨#[97]⟩] 9)) (some ⟨w.heap.size, 0, none⟩) 1 [[97]] := (Reads.of_own (World.ownsRow_lit (base := w.heap.size) (e := 9) (size := 1) w #[.string ⟨#[97]⟩] 1 (Nat.le_refl _) (by unfold maxLen; omega) rfl)).more (fun _ _ _ => trivial)
  have hec2 : (w.alloc (.cells #[.string ⟨#[97]⟩] 9)).cell? ⟨0, 0, none⟩ = some (.iface et ep) := (hg.toBelow.cell (p := ⟨0, 0, none⟩) (cell_lt hec)).trans hec
  refine (trie_any 1 (some ⟨w.heap.size, 0, none⟩) 1 1 [[97]] [] 0 false (.iface et ep) (w.alloc (.cells #[.string ⟨#[97]⟩] 9)) hst rfl (fun k hk => ?_) (by omega) (by omega) (by simp) ⟨et, ep, rfl⟩ hec2).mono ?_
  · rw [List.mem_singleton] at hk
    subst hk
    exact ⟨Nat.le_refl _, fun c hc => by rw [List.mem_singleton] at hc; subst hc; decide⟩
  · rintro _ w9 ⟨s, root, M, vp, vs, vv, ve, hinv, hbnd, hkey, rfl, _, _, _, hve, hb9⟩
    have hE : EntOk [([97], 1)] ([[97]] : List Bs) := by
      have h1 := entE_ok ([[97]] : List Bs) 1
      exact h1
    have hl := ents_cnt hinv hbnd hkey hE
    rw [hl] at hve
    obtain ⟨A, c, rfl, _⟩ := own_reads hve
    exact ⟨vp, vs, _, _, vv, A, c, rfl, hg.toBelow.trans (hb9.mono hg.size)⟩

set_option linter.unusedSimpArgs false in
set_option linter.unusedVariables false in
set_option maxHeartbeats 4000000 in
set_option maxRecDepth 100000 in
theorem fnTrie_any (A : Option Addr) (n c : Nat) (ks : List Bs) (str : Bs) (most : Int) (cp : Bool) (w : World) (hr : StrsIn w A n ks) (hnil : A = none → c = 0) (hm : n ≤ maxLen) (hs : str.length ≤ maxLen) (her : ∃ et ep, w.cell? ⟨0, 0, none⟩ = some (.iface et ep)) :
    Calls Tryd.prog 3 #[.slice A n c, .string (S str), .int .i64 most, .bool cp] w fun e w' => e = .returned (.bool true) ∧ Below w.heap.size w w' := by
  have hf3 := fits3_any A n c ks w hr hm
  unfold maxLen at hm hs
  obtain ⟨i0, hi9, hz0, hz1, hz2⟩ := info_parts info9
  have HZ := hide (And.intro hz0 (And.intro hz1 hz2))
  clear hz0 hz1 hz2
  have HF3 := hide hf3
  have HR := hide hr
  have HN := hide hr.len
  have HNIL := hide hnil
  have HER := hide her
  clear hf3 hr hnil her
  go_enter Tryd.func3, Tryd.ntmps3
  go_wp2_with fail
  refine HF3.out.mono ?_
  clear HF3
  rintro _ w1 ⟨rfl, rfl⟩
  cases hff : fits3B ks with
  | false =>
    go_wp2
    go_ret
    exact ⟨rfl, Below.refl _ _⟩
  | true =>
    obtain ⟨hn31, hk31⟩ := fits3_len hff
    have hn31' : n ≤ 2147483647 := by have := HN.out; omega
    have HK31 := hide hk31
    clear hff hn31 hk31
    by_cases hsb : (2147483647 : Int) < (str.length : Int)
    · go_wp2
      go_ret
      exact ⟨rfl, Below.refl _ _⟩
    · go_wp2
      go_loop [9, 29] (fun s9 s29 => ∃ i : Nat, s29 = .int .i64 i ∧ i ≤ n ∧ s9 = .int .i64 (total (ks.take i))) (fun _ s29 => n - (intOf s29).toNat)
      case atStart => exact ⟨0, rfl, Nat.zero_le _, rfl⟩
      case round =>
        obtain ⟨i, rfl, hi, rfl⟩ := hrel
        have htl := total_le HK31.out i
        have htl2 : total (ks.take i) ≤ 2147483647 * 2147483647 := Nat.le_trans htl (Nat.mul_le_mul_right _ (by omega))
        by_cases hlt : i < n
        · obtain ⟨k, hk⟩ : ∃ k, ks[i]? = some k := ⟨_, List.getElem?_eq_getElem (by have := HN.out; omega)⟩
          obtain ⟨ad, rfl, hadl, hc⟩ := HR.out.cell hk
          have hkl := HK31.out k (List.mem_of_getElem? hk)
          have htk := total_take hk
          have HTK := hide htk
          clear hk htk htl
          go_wp2
          go_round
          case measure => simp [intOf]; omega
          case rel => exact ⟨i + 1, by go_num, by omega, by rw [HTK.out]; go_num⟩
        · have hin : ks.take i = ks := List.take_of_length_le (by have := HN.out; omega)
          have hnl := HN.out
          rw [hin] at htl2 ⊢
          clear htl hin
          go_wp2_with fail
          refine (sane_any w HER.out).mono ?_
          rintro _ wq ⟨vp0, vs0, b1, b2, vv0, A0, c0, rfl, hb0⟩
          have hfd0 : ∀ w : World, (Instr.field 27 (.agg #[vp0, vs0, .bool b1, .bool b2, vv0, .slice A0 1 c0]) 5).run Tryd.prog w = .ok (.slice A0 1 c0) w := fun _ => by kernel_rfl
          have HB0 := hide hb0
          have hs0 := hb0.size
          clear hb0
          by_cases hc1 : (60 : Int) < (n : Int)
          · go_wp2
            go_ret
            exact ⟨rfl, HB0.out⟩
          · by_cases hc2 : (600 : Int) < ((total ks : Nat) : Int)
            · go_wp2
              go_ret
              exact ⟨rfl, HB0.out⟩
            · by_cases hc3 : (200 : Int) < (str.length : Int)
              · go_wp2
                go_ret
                exact ⟨rfl, HB0.out⟩
              · by_cases hc4 : most < (0 : Int)
                · go_wp2
                  go_ret
                  exact ⟨rfl, HB0.out⟩
                · have hd1 : decide ((60 : Int) < (n : Int)) = false := decide_eq_false hc1
                  have hd2 : decide ((600 : Int) < ((total ks : Nat) : Int)) = false := decide_eq_false hc2
                  have hd3 : decide ((200 : Int) < (str.length : Int)) = false := decide_eq_false hc3
                  have hd4 : decide (most < 0) = false := decide_eq_false hc4
                  have HOW : Hid ((wq.alloc (.cells #[.string (S str)] 9)).ownsRow wq.heap.size 9 1 (.slice (some ⟨wq.heap.size, 0, none⟩) 1 1) 1 (strs [str])) := World.ownsRow_lit (e := 9) (size := 1) wq #[.string (S str)] 1 (Nat.le_refl _) (by unfold maxLen; omega) rfl
                  have HRW : Hid (StrsIn (wq.alloc (.cells #[.string (S str)] 9)) A n ks) := (HR.out.below HB0.out).below ((Chg.refl (fun _ => False) wq).alloc _).toBelow
                  have HB1 : Hid (1 + n ≤ 1099511627776) := (by omega : 1 + n ≤ 1099511627776)
                  have HSW : Hid (wq.heap.size ≤ (wq.alloc (.cells #[.string (S str)] 9)).heap.size) := (by simp : wq.heap.size ≤ (wq.alloc (.cells #[.string (S str)] 9)).heap.size)
                  go_wp2_with
                    (at_builtin
                     go_loud (with_reducible refine wpList_appendS ?hg (.tmp 61) (.tmp 62) ?ho wq.heap.size (.slice (some ⟨wq.heap.size, 0, none⟩) 1 1) 1 (strs [str]) ?sv HOW.out A n c ks ?xv HRW.out HNIL.out HB1.out HSW.out ?_)
                     case hg => rfl
                     case ho => rfl
                     case sv => rfl
                     case xv => rfl
                     intro v3 w3 ho3 hcw3
                     obtain ⟨A3, c3, rfl, hr3⟩ := own_reads ho3.out
                     have HR3 : Hid (StrsIn w3 A3 (1 + n) (str :: ks)) := hr3.more (fun _ _ _ => trivial)
                     clear hr3)
                  have HB3 : Hid (Below w.heap.size w w3) := HB0.out.trans (((((Chg.refl (fun i => wq.heap.size ≤ i) wq).alloc _).trans hcw3.out (fun i _ hi => by injection hi with hi; exact Nat.le_of_eq hi)).below (Nat.le_refl _) (fun _ h => h)).mono hs0)
                  clear ho3 hcw3
                  refine (ascii_any A3 (1 + n) c3 (str :: ks) w3 HR3.out (by omega) (fun k hk => ?_)).mono ?_
                  · rcases List.mem_cons.1 hk with rfl | hk
                    · omega
                    · have := HK31.out k hk; omega
                  rintro _ w5 ⟨rfl, rfl⟩
                  cases has : asciiB (str :: ks) with
                  | false =>
                    go_wp2
                    go_ret
                    exact ⟨rfl, HB3.out⟩
                  | true =>
                    have HGP : Hid (∀ k ∈ ks, GoodP k 600) := fun k hk => by
                      have h1 := total_ge hk
                      refine ⟨by omega, fun c hc => ?_⟩
                      unfold asciiB at has
                      have h3 := List.all_eq_true.1 has k (List.mem_cons_of_mem _ hk)
                      have h4 := List.all_eq_true.1 h3 c hc
                      simpa using h4
                    clear has
                    have hs3 := HB3.out.size
                    go_wp2_with fail
                    refine (specEntries_any A n c ks w3 (HR.out.below HB3.out) (by omega)).mono ?_
                    rintro _ w4 ⟨vE, rfl, hes⟩
                    have hEok := entE_ok ks n
                    rw [List.take_of_length_le (by have := HN.out; omega)] at hEok
                    generalize entE ks n = E at *
                    have hEl := hEok.len_
                    obtain ⟨AE, cE, rfl, hcE, _⟩ := own_cap hes.own
                    have HEO := hide hEok
                    have HB4 : Hid (Below w.heap.size w w4) := HB3.out.trans (hes.bel.mono hs3)
                    have HRE : Hid (RdP w4 AE E) := RdP.of_own hes.own
                    have hs4 := HB4.out.size
                    clear hes hEok
                    obtain ⟨et, ep, hec⟩ := HER.out
                    have hec4 : w4.cell? ⟨0, 0, none⟩ = some (.iface et ep) := (HB4.out.cell (p := ⟨0, 0, none⟩) (cell_lt hec)).trans hec
                    have HEC4 := hide hec4
                    clear hec hec4
                    go_wp2_with fail
                    refine (trie_any 600 A n c ks str most cp (.iface et ep) w4 (HR.out.below HB4.out) HN.out.symm HGP.out (by omega) (by omega) (by omega) ⟨et, ep, rfl⟩ HEC4.out).mono ?_
                    rintro _ w5 ⟨s, root, M, vp, vs, vv, ve, hinv, hbnd, hkey, rfl, ⟨LP, hLP, hvp⟩, ⟨LS, hLS, hvs⟩, ⟨LV, hLV, hvv⟩, hve, hb5⟩
                    have hz1 := begun_has hinv hkey HEO.out str
                    have hz2 := begun_has hinv hkey HEO.out str.reverse
                    have hz3 := begun_is hinv hkey HEO.out str.reverse most
                    rw [List.length_reverse] at hz2 hz3
                    rw [hz1, hz2]
                    have HLP := hide (hLP.trans (begun_is hinv hkey HEO.out str most))
                    have HLS := hide (hLS.trans hz3)
                    have HLV := hide (hLV.trans (vals_is hinv hbnd hkey HEO.out most))
                    rw [ents_is hinv hbnd hkey HEO.out, ents_cnt hinv hbnd hkey HEO.out] at hve
                    clear hLP hLS hLV hz1 hz2 hz3 hinv hbnd hkey
                    obtain ⟨AP, kP, rfl, hkP, _⟩ := own_cap hvp
                    obtain ⟨AS, kS, rfl, hkS, _⟩ := own_cap hvs
                    obtain ⟨AV, kV, rfl, hkV, _⟩ := own_cap hvv
                    obtain ⟨AX, kX, rfl, hkX, _⟩ := own_cap hve
                    have HIP : Hid (IntsIn w5 AP LP) := (Reads.of_own hvp).more (fun _ _ _ => trivial)
                    have HIS : Hid (IntsIn w5 AS LS) := (Reads.of_own hvs).more (fun _ _ _ => trivial)
                    have HIV : Hid (IntsIn w5 AV LV) := (Reads.of_own hvv).more (fun _ _ _ => trivial)
                    have HIX : Hid (RdP w5 AX E) := RdP.of_own hve
                    have HB5 : Hid (Below w.heap.size w w5) := HB4.out.trans (hb5.mono hs4)
                    have HRE5 : Hid (RdP w5 AE E) := HRE.out.below hb5
                    have hs5 := HB5.out.size
                    clear hvp hvs hvv hve hb5
                    go_wp2_with fail
                    have hbx := Blk.new w5 27 #[Value.slice AP LP.length kP, Value.slice AS LS.length kS, Value.bool (decide (0 < (bg E str 0 (List.length str + 1)).length)), Value.bool (decide (0 < (bg E (List.reverse str) 0 (List.length str + 1)).length)), Value.slice AV LV.length kV, Value.slice AX E.length kX]
                    have hg6 := (Chg.refl (fun _ => False) w5).alloc (Obj.cells #[Value.slice AP LP.length kP, Value.slice AS LS.length kS, Value.bool (decide (0 < (bg E str 0 (List.length str + 1)).length)), Value.bool (decide (0 < (bg E (List.reverse str) 0 (List.length str + 1)).length)), Value.slice AV LV.length kV, Value.slice AX E.length kX] 27)
                    generalize w5.alloc (Obj.cells #[Value.slice AP LP.length kP, Value.slice AS LS.length kS, Value.bool (decide (0 < (bg E str 0 (List.length str + 1)).length)), Value.bool (decide (0 < (bg E (List.reverse str) 0 (List.length str + 1)).length)), Value.slice AV LV.length kV, Value.slice AX E.length kX] 27) = w6 at *
                    have hb6 := hg6.toBelow
                    have HIP6 := hide (HIP.out.below hb6)
                    have HIS6 := hide (HIS.out.below hb6)
                    have HIV6 := hide (HIV.out.below hb6)
                    have HIX6 := hide (HIX.out.below hb6)
                    have HRE6 := hide (HRE5.out.below hb6)
                    have HB6 := hide (HB5.out.trans (hb6.mono hs5))
                    have HBX := hide hbx
                    have hs6 := HB6.out.size
                    clear hbx hg6 hb6 HIP HIS HIV HIX HRE5
                    generalize w5.heap.size = gb at *
                    refine (begun_any AE cE E str 0 w6 HRE6.out (by omega) (by omega)).mono ?_
                    rintro _ w7 ⟨v7, rfl, ho7, hb7⟩
                    obtain ⟨A7, c7, rfl, _, _⟩ := own_cap ho7
                    have HB7 := hide hb7
                    clear ho7 hb7
                    go_wp2_with fail
                    refine (turned_any str w7 (by omega)).mono ?_
                    rintro _ w8 ⟨rfl, hb8⟩
                    have HB8 := hide (HB7.out.trans (hb8.mono HB7.out.size))
                    clear hb8
                    go_wp2_with fail
                    refine (begun_any AE cE E str.reverse 0 w8 (HRE6.out.below HB8.out) (by omega) (by rw [List.length_reverse]; omega)).mono ?_
                    rintro _ w9 ⟨v9, rfl, ho9, hb9⟩
                    rw [List.length_reverse] at ho9
                    obtain ⟨A9, c9, rfl, _, _⟩ := own_cap ho9
                    have HB9 := hide (HB8.out.trans (hb9.mono HB8.out.size))
                    clear ho9 hb9
                    go_wp2_with fail
                    have hlp := bg_len E str most (str.length + 1)
                    have hls := bg_len E str.reverse most (str.length + 1)
                    have hmul : (str.length + 1) * E.length ≤ 201 * 60 := Nat.mul_le_mul (by omega) (by omega)
                    have HLPL : Hid (LP.length ≤ 1099511627776) := (by rw [HLP.out]; omega : LP.length ≤ 1099511627776)
                    have HLSL : Hid (LS.length ≤ 1099511627776) := (by rw [HLS.out]; omega : LS.length ≤ 1099511627776)
                    have HBG : Hid (∀ (q : Bs) (X : World), q.length ≤ 1024 → Below w6.heap.size w6 X → Calls Tryd.prog 9 #[.slice AE E.length cE, .string (S q), .int .i64 most] X (fun e w' => ∃ A c, e = .returned (.slice A (bg E q most (q.length + 1)).length c) ∧ IntsIn w' A (bg E q most (q.length + 1)) ∧ Below X.heap.size X w')) := fun q X hq hX => by
                      refine (begun_any AE cE E q most X (HRE6.out.below hX) (by omega) hq).mono ?_
                      rintro _ wz ⟨vz, rfl, hoz, hbz⟩
                      obtain ⟨Az, cz, rfl, _, _⟩ := own_cap hoz
                      exact ⟨Az, cz, rfl, (Reads.of_own hoz).more (fun _ _ _ => trivial), hbz⟩
                    have HC : Hid (∀ X, Below w6.heap.size w6 X → ∀ i v, #[Value.slice AP LP.length kP, Value.slice AS LS.length kS, Value.bool (decide (0 < (bg E str 0 (List.length str + 1)).length)), Value.bool (decide (0 < (bg E (List.reverse str) 0 (List.length str + 1)).length)), Value.slice AV LV.length kV, Value.slice AX E.length kX][i]? = some v → X.cell? ⟨gb, i, none⟩ = some v) := fun X hX i v hv => by
                      rw [(HBX.out.below hX HBX.out.lt).cell]
                      exact hv
                    clear hlp hls hmul
                    have x0 : w9.cell? ⟨gb, 0, none⟩ = some (.slice AP LP.length kP) := HC.out _ HB9.out 0 _ rfl
                    have x1 : w9.cell? ⟨gb, 1, none⟩ = some (.slice AS LS.length kS) := HC.out _ HB9.out 1 _ rfl
                    have x2 : w9.cell? ⟨gb, 2, none⟩ = some (.bool (decide (0 < (bg E str 0 (List.length str + 1)).length))) := HC.out _ HB9.out 2 _ rfl
                    have x3 : w9.cell? ⟨gb, 3, none⟩ = some (.bool (decide (0 < (bg E (List.reverse str) 0 (List.length str + 1)).length))) := HC.out _ HB9.out 3 _ rfl
                    have x4 : w9.cell? ⟨gb, 4, none⟩ = some (.slice AV LV.length kV) := HC.out _ HB9.out 4 _ rfl
                    have x5 : w9.cell? ⟨gb, 5, none⟩ = some (.slice AX E.length kX) := HC.out _ HB9.out 5 _ rfl
                    go_region_held3 (fun w' => w'.cell? ⟨gb, 0, none⟩ = some (.slice AP LP.length kP) ∧ w'.cell? ⟨gb, 1, none⟩ = some (.slice AS LS.length kS) ∧ w'.cell? ⟨gb, 2, none⟩ = some (.bool (decide (0 < (bg E str 0 (List.length str + 1)).length))) ∧ w'.cell? ⟨gb, 3, none⟩ = some (.bool (decide (0 < (bg E (List.reverse str) 0 (List.length str + 1)).length))) ∧ w'.cell? ⟨gb, 4, none⟩ = some (.slice AV LV.length kV) ∧ w'.cell? ⟨gb, 5, none⟩ = some (.slice AX E.length kX)) (first | exact ⟨x0, x1, x2, x3, x4, x5⟩ | go_keep)
                      (first
                        | (go_at_call 9
                           with_reducible refine (HBG.out str _ (by omega) (below_drew HB9.out)).mono ?_
                           rintro _ w10 ⟨A10, c10, rfl, hi10, hb10⟩
                           have HB10 := hide ((below_drew HB9.out).trans (hb10.mono (below_drew HB9.out).size))
                           have x0 : w10.cell? ⟨gb, 0, none⟩ = some (.slice AP LP.length kP) := HC.out _ HB10.out 0 _ rfl
                           have x1 : w10.cell? ⟨gb, 1, none⟩ = some (.slice AS LS.length kS) := HC.out _ HB10.out 1 _ rfl
                           have x2 : w10.cell? ⟨gb, 2, none⟩ = some (.bool (decide (0 < (bg E str 0 (List.length str + 1)).length))) := HC.out _ HB10.out 2 _ rfl
                           have x3 : w10.cell? ⟨gb, 3, none⟩ = some (.bool (decide (0 < (bg E (List.reverse str) 0 (List.length str + 1)).length))) := HC.out _ HB10.out 3 _ rfl
                           have x4 : w10.cell? ⟨gb, 4, none⟩ = some (.slice AV LV.length kV) := HC.out _ HB10.out 4 _ rfl
                           have x5 : w10.cell? ⟨gb, 5, none⟩ = some (.slice AX E.length kX) := HC.out _ HB10.out 5 _ rfl
                           have HI10 := hide hi10
                           clear hi10 hb10)
                        | (go_at_call 11
                           with_reducible refine (eqi_any AP A10 kP c10 LP (bg E str most (str.length + 1)) _ (HIP6.out.below HB10.out) HI10.out HLPL.out).mono ?_
                           rintro _ w11 ⟨rfl, hb11⟩
                           rw [decide_eq_true HLP.out]
                           have HB11 := hide (HB10.out.trans (hb11.mono HB10.out.size))
                           have x0 : w11.cell? ⟨gb, 0, none⟩ = some (.slice AP LP.length kP) := HC.out _ HB11.out 0 _ rfl
                           have x1 : w11.cell? ⟨gb, 1, none⟩ = some (.slice AS LS.length kS) := HC.out _ HB11.out 1 _ rfl
                           have x2 : w11.cell? ⟨gb, 2, none⟩ = some (.bool (decide (0 < (bg E str 0 (List.length str + 1)).length))) := HC.out _ HB11.out 2 _ rfl
                           have x3 : w11.cell? ⟨gb, 3, none⟩ = some (.bool (decide (0 < (bg E (List.reverse str) 0 (List.length str + 1)).length))) := HC.out _ HB11.out 3 _ rfl
                           have x4 : w11.cell? ⟨gb, 4, none⟩ = some (.slice AV LV.length kV) := HC.out _ HB11.out 4 _ rfl
                           have x5 : w11.cell? ⟨gb, 5, none⟩ = some (.slice AX E.length kX) := HC.out _ HB11.out 5 _ rfl
                           clear hb11)
                        | (go_at_call 10
                           with_reducible refine (turned_any str _ (by omega)).mono ?_
                           rintro _ w12 ⟨rfl, hb12⟩
                           have HB12 := hide (HB11.out.trans (hb12.mono HB11.out.size))
                           have x0 : w12.cell? ⟨gb, 0, none⟩ = some (.slice AP LP.length kP) := HC.out _ HB12.out 0 _ rfl
                           have x1 : w12.cell? ⟨gb, 1, none⟩ = some (.slice AS LS.length kS) := HC.out _ HB12.out 1 _ rfl
                           have x2 : w12.cell? ⟨gb, 2, none⟩ = some (.bool (decide (0 < (bg E str 0 (List.length str + 1)).length))) := HC.out _ HB12.out 2 _ rfl
                           have x3 : w12.cell? ⟨gb, 3, none⟩ = some (.bool (decide (0 < (bg E (List.reverse str) 0 (List.length str + 1)).length))) := HC.out _ HB12.out 3 _ rfl
                           have x4 : w12.cell? ⟨gb, 4, none⟩ = some (.slice AV LV.length kV) := HC.out _ HB12.out 4 _ rfl
                           have x5 : w12.cell? ⟨gb, 5, none⟩ = some (.slice AX E.length kX) := HC.out _ HB12.out 5 _ rfl
                           clear hb12)
                        | (go_at_call 9
                           with_reducible refine (HBG.out str.reverse _ (by rw [List.length_reverse]; omega) HB12.out).mono ?_
                           rintro _ w13 ⟨A13, c13, rfl, hi13, hb13⟩
                           rw [List.length_reverse] at hi13
                           rw [List.length_reverse]
                           have HB13 := hide (HB12.out.trans (hb13.mono HB12.out.size))
                           have x0 : w13.cell? ⟨gb, 0, none⟩ = some (.slice AP LP.length kP) := HC.out _ HB13.out 0 _ rfl
                           have x1 : w13.cell? ⟨gb, 1, none⟩ = some (.slice AS LS.length kS) := HC.out _ HB13.out 1 _ rfl
                           have x2 : w13.cell? ⟨gb, 2, none⟩ = some (.bool (decide (0 < (bg E str 0 (List.length str + 1)).length))) := HC.out _ HB13.out 2 _ rfl
                           have x3 : w13.cell? ⟨gb, 3, none⟩ = some (.bool (decide (0 < (bg E (List.reverse str) 0 (List.length str + 1)).length))) := HC.out _ HB13.out 3 _ rfl
                           have x4 : w13.cell? ⟨gb, 4, none⟩ = some (.slice AV LV.length kV) := HC.out _ HB13.out 4 _ rfl
                           have x5 : w13.cell? ⟨gb, 5, none⟩ = some (.slice AX E.length kX) := HC.out _ HB13.out 5 _ rfl
                           have HI13 := hide hi13
                           clear hi13 hb13)
                        | (go_at_call 11
                           with_reducible refine (eqi_any AS A13 kS c13 LS (bg E str.reverse most (str.length + 1)) _ (HIS6.out.below HB13.out) HI13.out HLSL.out).mono ?_
                           rintro _ w14 ⟨rfl, hb14⟩
                           rw [decide_eq_true HLS.out]
                           have HB14 := hide (HB13.out.trans (hb14.mono HB13.out.size))
                           have x0 : w14.cell? ⟨gb, 0, none⟩ = some (.slice AP LP.length kP) := HC.out _ HB14.out 0 _ rfl
                           have x1 : w14.cell? ⟨gb, 1, none⟩ = some (.slice AS LS.length kS) := HC.out _ HB14.out 1 _ rfl
                           have x2 : w14.cell? ⟨gb, 2, none⟩ = some (.bool (decide (0 < (bg E str 0 (List.length str + 1)).length))) := HC.out _ HB14.out 2 _ rfl
                           have x3 : w14.cell? ⟨gb, 3, none⟩ = some (.bool (decide (0 < (bg E (List.reverse str) 0 (List.length str + 1)).length))) := HC.out _ HB14.out 3 _ rfl
                           have x4 : w14.cell? ⟨gb, 4, none⟩ = some (.slice AV LV.length kV) := HC.out _ HB14.out 4 _ rfl
                           have x5 : w14.cell? ⟨gb, 5, none⟩ = some (.slice AX E.length kX) := HC.out _ HB14.out 5 _ rfl
                           clear hb14)
                        | fail)
                    have HB14' := HB14
                    clear x0 x1 x2 x3 x4
                    go_wp2
                    go_loopw [128] (fun s128 wr => ∃ j : Nat, s128 = .int .i64 j ∧ j ≤ E.length ∧ Hid (Below w6.heap.size w6 wr)) (fun s128 _ => E.length - (intOf s128).toNat)
                    case atStart => exact ⟨0, rfl, Nat.zero_le _, HB14⟩
                    case round =>
                      obtain ⟨j, rfl, hj, HJ⟩ := hrel
                      by_cases hjl : j < E.length
                      · obtain ⟨p, hp⟩ : ∃ p, E[j]? = some p := ⟨_, List.getElem?_eq_getElem hjl⟩
                        obtain ⟨g1, hA1, hg1, k0, k1⟩ := (HIX6.out.below HJ.out) j p hp
                        obtain ⟨g2, hA2, hg2, k2, k3⟩ := (HRE6.out.below HJ.out) j p hp
                        subst hA1
                        subst hA2
                        have HJ9 : Hid (∀ q, Below w6.heap.size w6 ((wr.alloc (.cells #[.string (S p.1), .int .i64 p.2] 36)).drewN q)) := fun q => (((Chg.ofBelow HJ.out (fun _ => False)).alloc _).drewN q).toBelow
                        clear hp x5
                        go_wp2
                        go_quiet (fail)
                        go_wp2
                        exact ⟨⟨j + 1, by go_num, by omega, HJ9.out _⟩, by simp [intOf]; omega⟩
                      · have x4 := HC.out _ HJ.out 4 _ rfl
                        clear x5
                        go_wp2_with fail
                        refine (values_law AV kV AE cE LV E most wr (HIV6.out.below HJ.out) (HRE6.out.below HJ.out) HLV.out HEO.out.nums (by omega) hkV).mono ?_
                        rintro _ wz ⟨rfl, hbz⟩
                        have HZZ : Hid (Below w.heap.size w wz) := (HB6.out.trans (HJ.out.mono hs6)).trans (hbz.mono (HB6.out.trans (HJ.out.mono hs6)).size)
                        clear hbz x4
                        go_wp2
                        go_ret
                        exact ⟨rfl, HZZ.out⟩
end Go.Proofs.YtjekaagjgamfkaaDoor
