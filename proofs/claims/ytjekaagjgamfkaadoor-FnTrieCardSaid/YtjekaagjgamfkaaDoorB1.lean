/- The walk of the law FnBackwards. Under sizes alone. -/
import Derived.Test.YtjekaagjgamfkaaDoorAs
import Derived.Test.YtjekaagjgamfkaaDoorRv
import Derived.Test.YtjekaagjgamfkaaDoorIt
namespace Go.Proofs.YtjekaagjgamfkaaDoor
open Go.RowKit T
attribute [local go_sem] S_size S_toList E_toList S_extract

/-- How long some texts are together. -/
def total (ks : List Bs) : Nat := (ks.map List.length).sum
theorem total_take {ks : List Bs} {i : Nat} {k : Bs} (h : ks[i]? = some k) : total (ks.take (i + 1)) = total (ks.take i) + k.length := by
  rw [take_succ h]; simp [total]
theorem total_ge {ks : List Bs} {k : Bs} (h : k ∈ ks) : k.length ≤ total ks := by
  induction ks with
  | nil => cases h
  | cons a ks ih =>
    have hc : total (a :: ks) = a.length + total ks := by simp [total]
    rw [hc]
    rcases List.mem_cons.1 h with rfl | h
    · omega
    · have := ih h; omega
theorem fits3_len {ks : List Bs} (h : fits3B ks = true) : ks.length ≤ 2147483647 ∧ ∀ k ∈ ks, k.length ≤ 2147483647 := by
  unfold fits3B at h
  rw [Bool.and_eq_true, decide_eq_true_iff, List.all_eq_true] at h
  exact ⟨h.1, fun k hk => by simpa using h.2 k hk⟩
theorem total_le {ks : List Bs} (h : ∀ k ∈ ks, k.length ≤ 2147483647) : ∀ i, total (ks.take i) ≤ i * 2147483647 := by
  intro i
  induction i with
  | zero => exact Nat.le_of_eq (by rw [Nat.zero_mul]; rfl)
  | succ i ih =>
    cases hk : ks[i]? with
    | none =>
      have h1 := List.getElem?_eq_none_iff.1 hk
      rw [List.take_of_length_le (by omega)] at ih ⊢
      rw [Nat.succ_mul]
      exact Nat.le_trans ih (Nat.le_add_right _ _)
    | some k =>
      rw [total_take hk]
      have := h k (List.mem_of_getElem? hk)
      omega

theorem rev_ab (w : World) : Calls Tryd.prog 13 #[.string ⟨#[97, 98]⟩] w fun e w' => e = .returned (.string ⟨#[98, 97]⟩) ∧ Below w.heap.size w w' := impl_reverse_ab w

theorem cell_lt {w : World} {p : Addr} {v : Value} (h : w.cell? p = some v) : p.block < w.heap.size := by
  rcases Nat.lt_or_ge p.block w.heap.size with h1 | h1
  · exact h1
  · unfold World.cell? at h
    rw [Array.getElem?_eq_none h1] at h
    cases h
/-- The turned texts in the middle of it. -/
structure BkSt (w wr : World) (v : Value) (L : List Bs) : Prop where
  own : wr.ownsRow w.heap.size 9 1 v L.length (strs (L.map List.reverse))
  bel : Below w.heap.size w wr

set_option linter.unusedSimpArgs false in
set_option linter.unusedVariables false in
set_option maxHeartbeats 4000000 in
set_option maxRecDepth 100000 in
theorem fnBackwards_any (A : Option Addr) (n c : Nat) (ks : List Bs) (str : Bs) (w : World) (hr : StrsIn w A n ks) (hnil : A = none → c = 0) (hm : n ≤ maxLen) (hs : str.length ≤ maxLen) (her : ∃ et ep, w.cell? ⟨0, 0, none⟩ = some (.iface et ep)) :
    Calls Tryd.prog 4 #[.slice A n c, .string (S str)] w fun e w' => e = .returned (.bool true) ∧ Below w.heap.size w w' := by
  have hf3 := fits3_any A n c ks w hr hm
  unfold maxLen at hm hs
  obtain ⟨i0, hi9, hz0, hz1, hz2⟩ := info_parts info9
  have HZ := hide (And.intro hz0 (And.intro hz1 hz2))
  clear hz0 hz1 hz2
  have HF3 := hide hf3
  have HR := hide hr
  have HN := hide hr.len
  have HNIL := hide hnil
  have HER := hide her
  clear hf3 hr hnil her
  go_enter Tryd.func4, Tryd.ntmps4
  go_wp2_with fail
  refine HF3.out.mono ?_
  clear HF3
  rintro _ w1 ⟨rfl, rfl⟩
  cases hff : fits3B ks with
  | false =>
    go_wp2
    go_ret
    exact ⟨rfl, Below.refl _ _⟩
  | true =>
    obtain ⟨hn31, hk31⟩ := fits3_len hff
    have hn31' : n ≤ 2147483647 := by have := HN.out; omega
    have HK31 := hide hk31
    clear hff hn31 hk31
    by_cases hsb : (2147483647 : Int) < (str.length : Int)
    · go_wp2
      go_ret
      exact ⟨rfl, Below.refl _ _⟩
    · go_wp2
      go_loop [5, 22] (fun s5 s22 => ∃ i : Nat, s22 = .int .i64 i ∧ i ≤ n ∧ s5 = .int .i64 (total (ks.take i))) (fun _ s22 => n - (intOf s22).toNat)
      case atStart => exact ⟨0, rfl, Nat.zero_le _, rfl⟩
      case round =>
        obtain ⟨i, rfl, hi, rfl⟩ := hrel
        have htl := total_le HK31.out i
        have htl2 : total (ks.take i) ≤ 2147483647 * 2147483647 := Nat.le_trans htl (Nat.mul_le_mul_right _ (by omega))
        by_cases hlt : i < n
        · obtain ⟨k, hk⟩ : ∃ k, ks[i]? = some k := ⟨_, List.getElem?_eq_getElem (by have := HN.out; omega)⟩
          obtain ⟨ad, rfl, hadl, hc⟩ := HR.out.cell hk
          have hkl := HK31.out k (List.mem_of_getElem? hk)
          have htk := total_take hk
          have HTK := hide htk
          clear hk htk htl
          go_wp2
          go_round
          case measure => simp [intOf]; omega
          case rel => exact ⟨i + 1, by go_num, by omega, by rw [HTK.out]; go_num⟩
        · have hin : ks.take i = ks := List.take_of_length_le (by have := HN.out; omega)
          have hnl := HN.out
          rw [hin] at htl2 ⊢
          clear htl hin
          by_cases hc1 : (60 : Int) < (n : Int)
          · go_wp2_with fail
            refine (rev_ab _).mono ?_
            rintro _ w2 ⟨rfl, hb2⟩
            go_wp2
            go_ret
            exact ⟨rfl, hb2⟩
          · by_cases hc2 : (600 : Int) < ((total ks : Nat) : Int)
            · go_wp2_with fail
              refine (rev_ab _).mono ?_
              rintro _ w2 ⟨rfl, hb2⟩
              go_wp2
              go_ret
              exact ⟨rfl, hb2⟩
            · by_cases hc3 : (200 : Int) < (str.length : Int)
              · go_wp2_with fail
                refine (rev_ab _).mono ?_
                rintro _ w2 ⟨rfl, hb2⟩
                go_wp2
                go_ret
                exact ⟨rfl, hb2⟩
              · have HOW : Hid ((w.alloc (.cells #[.string (S str)] 9)).ownsRow w.heap.size 9 1 (.slice (some ⟨w.heap.size, 0, none⟩) 1 1) 1 (strs [str])) := World.ownsRow_lit (e := 9) (size := 1) w #[.string (S str)] 1 (Nat.le_refl _) (by unfold maxLen; omega) rfl
                have HRW : Hid (StrsIn (w.alloc (.cells #[.string (S str)] 9)) A n ks) := HR.out.below ((Chg.refl (fun _ => False) w).alloc _).toBelow
                have HB1 : Hid (1 + n ≤ 1099511627776) := (by omega : 1 + n ≤ 1099511627776)
                have HSW : Hid (w.heap.size ≤ (w.alloc (.cells #[.string (S str)] 9)).heap.size) := (by simp : w.heap.size ≤ (w.alloc (.cells #[.string (S str)] 9)).heap.size)
                go_wp2_with
                  (at_builtin
                   go_loud (with_reducible refine wpList_appendS ?hg (.tmp 45) (.tmp 46) ?ho w.heap.size (.slice (some ⟨w.heap.size, 0, none⟩) 1 1) 1 (strs [str]) ?sv HOW.out A n c ks ?xv HRW.out HNIL.out HB1.out HSW.out ?_)
                   case hg => rfl
                   case ho => rfl
                   case sv => rfl
                   case xv => rfl
                   intro v3 w3 ho3 hcw3
                   obtain ⟨A3, c3, rfl, hr3⟩ := own_reads ho3.out
                   have HR3 : Hid (StrsIn w3 A3 (1 + n) (str :: ks)) := hr3.more (fun _ _ _ => trivial)
                   clear hr3)
                have HB3 : Hid (Below w.heap.size w w3) := ((((Chg.refl (fun i => w.heap.size ≤ i) w).alloc _).trans hcw3.out (fun i _ hi => by injection hi with hi; exact Nat.le_of_eq hi)).below (Nat.le_refl _) (fun _ h => h))
                clear ho3 hcw3
                refine (ascii_any A3 (1 + n) c3 (str :: ks) w3 HR3.out (by omega) (fun k hk => ?_)).mono ?_
                · rcases List.mem_cons.1 hk with rfl | hk
                  · omega
                  · have := HK31.out k hk; omega
                rintro _ w5 ⟨rfl, rfl⟩
                cases has : asciiB (str :: ks) with
                | false =>
                  go_wp2_with fail
                  refine (rev_ab _).mono ?_
                  rintro _ w4 ⟨rfl, hb4⟩
                  go_wp2
                  go_ret
                  exact ⟨rfl, HB3.out.trans (hb4.mono HB3.out.size)⟩
                | true =>
                  have HAS := hide has
                  clear has
                  have HLE3 : Hid (w.heap.size ≤ w3.heap.size) := HB3.out.size
                  go_wp2
                  go_loopw [8, 9, 55] (fun s8 s9 s55 wr => ∃ i : Nat, s55 = .int .i64 i ∧ i ≤ n ∧ w.heap.size ≤ wr.heap.size ∧ s9 = .bool ((ks.take i).any (endsB str)) ∧ Hid (BkSt w wr s8 (ks.take i))) (fun _ _ s55 _ => n - (intOf s55).toNat)
                  case atStart => exact ⟨0, rfl, Nat.zero_le _, HLE3.out, rfl, (⟨World.ownsRow_nil _ _ _ _, HB3.out⟩ : BkSt w w3 _ [])⟩
                  case round =>
                    obtain ⟨i, rfl, hi, hsz, rfl, HI⟩ := hrel
                    by_cases hlt : i < n
                    · obtain ⟨k, hk⟩ : ∃ k, ks[i]? = some k := ⟨_, List.getElem?_eq_getElem (by have := HN.out; omega)⟩
                      obtain ⟨ad, rfl, hadl, hc⟩ := StrsIn.cell (HR.out.below HI.out.bel) hk
                      have hkl := HK31.out k (List.mem_of_getElem? hk)
                      have HTK := hide (take_succ hk)
                      have hli : (ks.take i).length = i := by rw [List.length_take]; have := HN.out; omega
                      have hown : wr.ownsRow w.heap.size 9 1 u8 i (strs ((ks.take i).map List.reverse)) := by
                        have h1 := HI.out.own
                        rw [hli] at h1
                        exact h1
                      obtain ⟨A8, c8, rfl, hc8, hm8⟩ := own_cap hown
                      have HOWN := hide hown
                      have HBEL := hide HI.out.bel
                      clear hk hown hm8 HI
                      go_wp2_with fail
                      refine (ireverse_any k wr (by omega)).mono ?_
                      rintro _ w5 ⟨rfl, hb5⟩
                      have HOW5 : Hid ((w5.alloc (.cells #[.string (S k.reverse)] 9)).ownsRow w.heap.size 9 1 (.slice A8 i c8) i (strs ((ks.take i).map List.reverse))) := (own_chg (HOWN.out) (Chg.ofBelow hb5 (fun _ => False)) (fun _ _ h => h)).alloc _
                      have HCW5 : Hid ((w5.alloc (.cells #[.string (S k.reverse)] 9)).cell? ⟨w5.heap.size, 0, none⟩ = some (.string (S k.reverse))) := by
                        have := (Blk.new w5 9 #[.string (S k.reverse)]).cell 0
                        rw [this]; rfl
                      have HSW5 : Hid (w.heap.size ≤ (w5.alloc (.cells #[.string (S k.reverse)] 9)).heap.size) := by
                        have := hb5.size
                        have h2 : w.heap.size ≤ (w5.alloc (.cells #[.string (S k.reverse)] 9)).heap.size := by simp; omega
                        exact h2
                      have HBW5 : Hid (∀ w9 : World, (w5.alloc (.cells #[.string (S k.reverse)] 9)).grownBy w9 (Value.slice A8 i c8).ownBlock → Below w.heap.size w w9) := fun w9 hg => by
                        have h1 : Chg (fun g => w.heap.size ≤ g) w (w5.alloc (.cells #[.string (S k.reverse)] 9)) := ((Chg.ofBelow HBEL.out _).trans (Chg.ofBelow hb5 (fun _ => False)) (fun _ _ h => h.elim)).alloc _
                        exact (h1.trans (Chg.ofGrown (S := fun g => w.heap.size ≤ g) hg (fun g hg9 _ => (HOWN.out.lt g hg9).1)) (fun _ _ h => h)).below (Nat.le_refl _) (fun _ h => h)
                      clear hb5 hc hadl
                      have HEND : Hid (∀ b : Bool, ((ks.take i).any (endsB str) || endsB str k) = b → (ks.take (i + 1)).any (endsB str) = b) := fun b hb => by
                        rw [HTK.out, List.any_append]
                        simpa using hb
                      have HFIN : Hid (∀ (g9 c9 : Nat) (w9 : World), w9.ownsRow w.heap.size 9 1 (.slice (some ⟨g9, 0, none⟩) (i + 1) c9) (i + 1) (strs ((ks.take i).map List.reverse) ++ [.string (S k.reverse)]) → (w5.alloc (.cells #[.string (S k.reverse)] 9)).grownBy w9 (Value.slice A8 i c8).ownBlock → BkSt w w9 (.slice (some ⟨g9, 0, none⟩) (i + 1) c9) (ks.take (i + 1))) := fun g9 c9 w9 h1 h2 => by
                        refine ⟨?_, HBW5.out w9 h2⟩
                        have hl : (ks.take (i + 1)).length = i + 1 := by rw [HTK.out, List.length_append, hli]; rfl
                        rw [hl, HTK.out, List.map_append, strs_append]
                        exact h1
                      have HLTH := hide hli
                      clear hli
                      cases hw : (ks.take i).any (endsB str) with
                      | true =>
                        have HX : Hid ((ks.take (i + 1)).any (endsB str) = true) := HEND.out true (by rw [hw]; rfl)
                        clear hw
                        go_wp2_with
                          (at_builtin
                           go_must (refine wpList_append1 rfl _ _ 22 rfl w.heap.size 9 i0 (.string ⟨#[]⟩) 16 Tryd.underlying22 hi9 HZ.out.1 HZ.out.2.1 HZ.out.2.2 rfl (.slice A8 i c8) i (strs ((ks.take i).map List.reverse)) rfl HOW5.out ⟨w5.heap.size, 0, none⟩ 1 (.string (S k.reverse)) rfl HCW5.out rfl (by unfold maxLen; omega) (by omega) HSW5.out ?_)
                           intro g9 c9 w9 ho9 _ hg9 hat9 hlt9
                           have HO9 := hide (HFIN.out g9 c9 w9 ho9 hg9)
                           clear ho9 hg9 hat9)
                        exact ⟨⟨i + 1, by go_num, by omega, HO9.out.bel.size, by rw [HX.out], HO9⟩, by simp [intOf]; omega⟩
                      | false =>
                        by_cases hle : (k.length : Int) ≤ (str.length : Int)
                        · have HX : Hid ((ks.take (i + 1)).any (endsB str) = (str.drop (str.length - k.length) == k)) := HEND.out _ (by rw [hw, Bool.false_or]; unfold endsB; rw [decide_eq_true (by omega), Bool.true_and])
                          clear hw
                          go_wp2_with
                            (at_builtin
                             go_must (refine wpList_append1 rfl _ _ 22 rfl w.heap.size 9 i0 (.string ⟨#[]⟩) 16 Tryd.underlying22 hi9 HZ.out.1 HZ.out.2.1 HZ.out.2.2 rfl (.slice A8 i c8) i (strs ((ks.take i).map List.reverse)) rfl HOW5.out ⟨w5.heap.size, 0, none⟩ 1 (.string (S k.reverse)) rfl HCW5.out rfl (by unfold maxLen; omega) (by omega) HSW5.out ?_)
                             intro g9 c9 w9 ho9 _ hg9 hat9 hlt9
                             have HO9 := hide (HFIN.out g9 c9 w9 ho9 hg9)
                             clear ho9 hg9 hat9)
                          exact ⟨⟨i + 1, by go_num, by omega, HO9.out.bel.size, by rw [HX.out], HO9⟩, by simp [intOf]; omega⟩
                        · have HX : Hid ((ks.take (i + 1)).any (endsB str) = false) := HEND.out _ (by rw [hw, Bool.false_or]; unfold endsB; rw [decide_eq_false (by omega), Bool.false_and])
                          clear hw
                          go_wp2_with
                            (at_builtin
                             go_must (refine wpList_append1 rfl _ _ 22 rfl w.heap.size 9 i0 (.string ⟨#[]⟩) 16 Tryd.underlying22 hi9 HZ.out.1 HZ.out.2.1 HZ.out.2.2 rfl (.slice A8 i c8) i (strs ((ks.take i).map List.reverse)) rfl HOW5.out ⟨w5.heap.size, 0, none⟩ 1 (.string (S k.reverse)) rfl HCW5.out rfl (by unfold maxLen; omega) (by omega) HSW5.out ?_)
                             intro g9 c9 w9 ho9 _ hg9 hat9 hlt9
                             have HO9 := hide (HFIN.out g9 c9 w9 ho9 hg9)
                             clear ho9 hg9 hat9)
                          exact ⟨⟨i + 1, by go_num, by omega, HO9.out.bel.size, by rw [HX.out], HO9⟩, by simp [intOf]; omega⟩
                    · have hin : ks.take i = ks := List.take_of_length_le (by have := HN.out; omega)
                      have hst : BkSt w wr u8 ks := by
                        have h1 := HI.out
                        rw [hin] at h1
                        exact h1
                      rw [hin]
                      have hown : wr.ownsRow w.heap.size 9 1 u8 n (strs (ks.map List.reverse)) := by
                        have h1 := hst.own
                        rw [HN.out] at h1
                        exact h1
                      obtain ⟨A8, c8, rfl, hr8⟩ := own_reads hown
                      have HR8 : Hid (StrsIn wr A8 n (ks.map List.reverse)) := hr8.more (fun _ _ _ => trivial)
                      have HBEL := hide hst.bel
                      have HGP : Hid (∀ k ∈ ks.map List.reverse, GoodP k 600) := fun k hk => by
                        obtain ⟨k0, hk0, rfl⟩ := List.mem_map.1 hk
                        have h1 := total_ge hk0
                        refine ⟨by rw [List.length_reverse]; omega, fun c hc => ?_⟩
                        have h2 := HAS.out
                        unfold asciiB at h2
                        have h3 := List.all_eq_true.1 h2 k0 (List.mem_cons_of_mem _ hk0)
                        have h4 := List.all_eq_true.1 h3 c (List.mem_reverse.1 hc)
                        simpa using h4
                      obtain ⟨et, ep, hec⟩ := HER.out
                      have HEC : Hid (wr.cell? ⟨0, 0, none⟩ = some (.iface et ep)) := (HBEL.out.cell (p := ⟨0, 0, none⟩) (cell_lt hec)).trans hec
                      clear hin hst hown hr8 HI hec
                      go_wp2_with fail
                      refine (trie_any 600 A8 n c8 (ks.map List.reverse) str 0 false (.iface et ep) wr HR8.out (by rw [List.length_map]; exact HN.out.symm) HGP.out (by omega) (by omega) (by omega) ⟨et, ep, rfl⟩ HEC.out).mono ?_
                      rintro _ w9 ⟨s, root, M, vp, vs, vv, ve, hinv, hbnd, hkey, rfl, _, _, _, _, hb9⟩
                      have hq : (!(pfx s (str.length + 1) root str.reverse).isEmpty) = ks.any (endsB str) := by
                        have h1 := has_any hinv hkey str.reverse
                        rw [List.length_reverse, List.any_map] at h1
                        rw [h1]
                        congr 1
                        funext k
                        exact ends_rev str k
                      rw [hq]
                      have hfd : ∀ w : World, (Instr.field 27 (.agg #[vp, vs, .bool (!(pfx s (str.length + 1) root str).isEmpty), .bool (ks.any (endsB str)), vv, ve]) 3).run Tryd.prog w = .ok (.bool (ks.any (endsB str))) w := fun _ => by kernel_rfl
                      have HB9 : Hid (Below w.heap.size w w9) := HBEL.out.trans (hb9.mono hsz)
                      clear hq hinv hbnd hkey hb9
                      generalize ks.any (endsB str) = b at hfd ⊢
                      generalize (!(pfx s (str.length + 1) root str).isEmpty) = b1 at hfd ⊢
                      cases b
                      · go_wp2_with fail
                        refine (rev_ab _).mono ?_
                        rintro _ w2 ⟨rfl, hb2⟩
                        go_wp2
                        go_ret
                        exact ⟨rfl, HB9.out.trans (hb2.mono HB9.out.size)⟩
                      · go_wp2_with fail
                        refine (rev_ab _).mono ?_
                        rintro _ w2 ⟨rfl, hb2⟩
                        go_wp2
                        go_ret
                        exact ⟨rfl, HB9.out.trans (hb2.mono HB9.out.size)⟩
end Go.Proofs.YtjekaagjgamfkaaDoor
