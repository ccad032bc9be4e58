/- The walk of the law FnBitsOf. No condition but sizes. -/
import Derived.Test.YtammpllfmbmdmaaBo
namespace Go.Proofs.Ytammpllfmbmdmaa
open Go.RowKit

theorem ask_list (n : Nat) : ∀ s ∈ askS n, s.list = [] := fun s hs => by obtain ⟨i, _, rfl⟩ := List.mem_map.1 hs; rfl
theorem put_list (L : List AnsD) : ∀ s ∈ putS L, s.list = [] := fun s hs => by obtain ⟨i, _, rfl⟩ := List.mem_map.1 hs; rfl

set_option maxHeartbeats 4000000 in
set_option maxRecDepth 100000 in
theorem fnBitsOf_some (A : Option Addr) (n c : Nat) (D : List Nat) (w : World) (hr : Reads w (fun _ => True) 1 A n (bytes D)) (hnil : A = none → n = 0 ∧ c = 0) (hlt : ∀ b ∈ D, b < 256) (hn : n ≤ 20) :
    Calls Try.prog 6 #[.slice A n c] w fun e w' => e = .returned (.bool true) ∧ Below w.heap.size w w' := by
  have hD : D.length = n := by have := hr.1; simpa using this
  obtain ⟨i0, hinf, hz0, hz1, hz2⟩ := info_parts info29
  have HR := hide hr
  have HNIL := hide hnil
  have HLT := hide hlt
  have HD := hide hD
  have HVL : Hid ((vbits D).length = 8 * n) := by show _ = _; rw [vbits_len, hD]
  clear hr hnil hlt hD
  go_enter Try.func6, Try.ntmps6
  go_wp2
  go_loopw [3, 26] (fun v3 i wr => ∃ j : Nat, j ≤ 8 * n ∧ i = .int .i64 j ∧ Hid (wr.ownsRow w.heap.size 29 8 v3 j (stepFlat (askS j))) ∧ Hid (Below w.heap.size w wr)) (fun _ i _ => 8 * n - (intOf i).toNat)
  case atStart => exact ⟨0, Nat.zero_le _, rfl, World.ownsRow_nil _ _ _ _, Below.refl _ _⟩
  case round =>
    obtain ⟨j, hj, rfl, HO, HB⟩ := hrel
    have hwr := HB.out.size
    by_cases hlt : j < 8 * n
    · go_wp2_with (at_builtin; go_must (refine wpList_append_step rfl _ _ 22 rfl i0 _ Try.underlying22 hinf hz0 hz1 hz2 rfl wr w.heap.size u3 j _ HO.out ⟨4, 0, (j : Int), 0, 0, 0, 0, []⟩ rfl rfl (by omega) (by omega) ?_); intro v' w6 hown' hc6; have HO6 := hide hown'; have HC6 := hide hc6; clear hown' hc6)
      go_roundw
      case measure => simp [intOf]; omega
      case rel =>
        refine ⟨j + 1, by omega, by go_num, ?_, ?_⟩
        · show World.ownsRow _ _ _ _ _ _ _
          rw [askS_succ, stepFlat_snoc]
          exact HO6.out
        · exact HB.out.trans (HC6.out.below HB.out.size (fun i hi => (HO.out.lt i hi).1))
    · obtain rfl : j = 8 * n := by omega
      have hso := steps_own (S := askS (8 * n)) (v := u3) (base := w.heap.size) (by rw [askS_len]; exact HO.out) (ask_list _)
      rw [askS_len] at hso
      obtain ⟨A3, c3, rfl, _, hst⟩ := hso
      have hrd : Reads wr (fun _ => True) 1 A n (bytes D) := HR.out.below HB.out
      have hq := bits_walk (fun _ => True) A n c D (vbits D) A3 (8 * n) c3 (askS (8 * n)) wr hrd HNIL.out (by omega) HLT.out (vec_all D) (by rw [HVL.out]; omega) hst (by omega) (ask_good _ (by rw [HVL.out]; omega) _ (fun s hs => by
        obtain ⟨i, hi, rfl⟩ := List.mem_map.1 hs
        have hi2 := List.mem_range.1 hi
        refine ⟨rfl, by show (0 : Int) ≤ (i : Int); omega, ?_⟩
        rw [HVL.out]
        show (i : Int) < _
        omega))
      have hst0 := (ask_out (vbits D) (askS (8 * n)) (fun s hs => by obtain ⟨i, _, rfl⟩ := List.mem_map.1 hs; rfl)).1
      have hbt := ask_bits D
      rw [HD.out] at hbt
      have hol : (outF stepB (vbits D) (askS (8 * n))).length = 8 * n := by
        rw [← List.length_map (f := fun a : AnsD => a.n), hbt, HVL.out]
      rw [hst0, HVL.out] at hq
      have e8 : ((8 * n : Nat) : Int) = 8 * (n : Int) := by omega
      rw [e8] at hq
      clear hst hrd hst0
      generalize outF stepB (vbits D) (askS (8 * n)) = L at *
      have HBT := hide hbt
      have HOL := hide hol
      clear hbt hol
      go_wp2_with fail
      refine hq.mono ?_
      clear hq
      rintro e w2 ⟨RA, rc, v2, D2, rfl, _, hans, hown2, hvec2, hlt2, _, hbl2⟩
      obtain rfl : D2 = D := vec_unique hvec2 HLT.out hlt2
      rw [HOL.out] at hans
      rw [HVL.out, HOL.out, e8]
      obtain ⟨A2, c2, rfl, _⟩ := own_reads hown2
      have HANS := hide hans
      have HOW2 := hide hown2
      have HB2 : Hid (Below w.heap.size w w2) := HB.out.trans (hbl2.mono hwr)
      have hsz2 : w.heap.size ≤ w2.heap.size := HB2.out.size
      clear hans hown2 hvec2 hlt2 hbl2
      go_wp2
      go_loopw [4, 47] (fun v4 i wr => ∃ j : Nat, j ≤ 8 * n ∧ i = .int .i64 j ∧ Hid (wr.ownsRow w2.heap.size 29 8 v4 j (stepFlat (putS (L.take j)))) ∧ Hid (Below w2.heap.size w2 wr)) (fun _ i _ => 8 * n - (intOf i).toNat)
      case atStart => exact ⟨0, Nat.zero_le _, rfl, World.ownsRow_nil _ _ _ _, Below.refl _ _⟩
      case round =>
        obtain ⟨j, hj, rfl, HO, HB3⟩ := hrel
        have hwr3 := HB3.out.size
        by_cases hlt : j < 8 * n
        · obtain ⟨ad, a, LA, lc, rfl, hx, hat⟩ := (HANS.out.below HB3.out).2 j hlt
          obtain ⟨d0, d1, d2, d3⟩ := And.intro hat.c0 (And.intro hat.c1 (And.intro hat.c2 hat.c3))
          have hhe := hat.here
          have HX := hide hx
          clear hx hat
          go_wp2_with (at_builtin; go_must (refine wpList_append_step rfl _ _ 22 rfl i0 _ Try.underlying22 hinf hz0 hz1 hz2 rfl (wr.alloc (.cells #[.int .i64 a.n, .bool a.ok, .slice LA a.list.length lc, .bool a.panicked] 46)) w2.heap.size u4 j _ (World.ownsRow.alloc HO.out _) ⟨0, 0, 0, a.n, 0, 0, 0, []⟩ rfl (by rw [World.size_alloc]; rfl) (by omega) (by simp; omega) ?_); intro v' w6 hown' hc6; have HO6 := hide hown'; have HC6 := hide hc6; clear hown' hc6)
          go_roundw
          case measure => simp [intOf]; omega
          case rel =>
            refine ⟨j + 1, by omega, by go_num, ?_, ?_⟩
            · show World.ownsRow _ _ _ _ _ _ _
              rw [show L.take (j + 1) = L.take j ++ [a] by rw [List.take_add_one, HX.out]; rfl, putS_snoc, stepFlat_snoc]
              exact HO6.out
            · exact (HB3.out.alloc hwr3 _).trans (HC6.out.below (by simp; omega) (fun i hi => (HO.out.lt i hi).1))
        · obtain rfl : j = 8 * n := by omega
          have htk : L.take (8 * n) = L := List.take_of_length_le (by have := HOL.out; omega)
          rw [htk] at HO
          have hpl : (putS L).length = 8 * n := by rw [putS_len]; exact HOL.out
          have hso := steps_own (S := putS L) (v := u4) (base := w2.heap.size) (by rw [hpl]; exact HO.out) (put_list _)
          rw [hpl] at hso
          obtain ⟨A4, c4, rfl, _, hst⟩ := hso
          have hgood : goodF stepB goodB [] (putS L) := put_good L [] (fun a ha => by
            have h1 : a.n ∈ L.map (·.n) := List.mem_map_of_mem ha
            rw [HBT.out] at h1
            exact vbits_bit _ _ h1) (by have := HOL.out; simp; omega)
          have hq := bits_walk (fun _ => True) none 0 0 [] [] A4 (8 * n) c4 (putS L) wr ⟨rfl, fun h => absurd h (by omega)⟩ (fun _ => ⟨rfl, rfl⟩) (by omega) (fun b hb => by cases hb) VecIs.nil (by simp) hst (by omega) hgood
          rw [put_st, List.nil_append, HBT.out] at hq
          clear hst hgood hpl htk
          go_wp2_with fail
          refine hq.mono ?_
          clear hq
          rintro e w4 ⟨RA4, rc4, v4, D4, rfl, _, _, hown4, hvec4, hlt4, _, hbl4⟩
          obtain rfl : D4 = D2 := vec_unique hvec4 HLT.out hlt4
          rw [HVL.out, e8]
          obtain ⟨A5, c5, rfl, _⟩ := own_reads hown4
          have HOW4 := hide hown4
          have HB4 : Hid (Gr w2 w4) := (Gr.ofBelow HB3.out).trans (Gr.ofBelow hbl4) (fun _ _ h => h)
          have hsz4 : w2.heap.size ≤ w4.heap.size := HB4.out.size
          have HG4 : Hid (Gr wr w4) := Gr.ofBelow hbl4
          clear hown4 hvec4 hlt4 hbl4
          have hq := bits_walk (fun _ => True) (some ⟨w4.heap.size, 0, none⟩) 1 1 [5] (vbits [5]) none 0 0 [] (w4.alloc (.cells #[.int .u8 5] 5)) ⟨rfl, fun _ => ⟨_, rfl, trivial, by simp, fun j u hu => by
            match j, hu with
            | 0, hu =>
              simp at hu; subst hu
              rw [add_plain, (Blk.new w4 5 #[.int .u8 5]).cell]; rfl⟩⟩ (fun h => by cases h) (by omega) (fun b hb => by simp at hb; omega) (vec_all [5]) (by decide) ⟨rfl, fun i hi => by omega⟩ (by omega) trivial
          rw [show ((vbits [5]).length : Int) = 8 from rfl, show stF stepB (vbits [5]) [] = vbits [5] from rfl] at hq
          go_wp2_with fail
          refine hq.mono ?_
          clear hq
          rintro e w5 ⟨RA5, rc5, v5, D5, rfl, _, _, hown5, hvec5, hlt5, _, hbl5⟩
          obtain rfl : D5 = [5] := vec_unique hvec5 (fun b hb => by simp at hb; omega) hlt5
          obtain ⟨A6, c6, rfl, _⟩ := own_reads hown5
          have hg5 : Gr w4 w5 := ((Chg.refl _ w4).alloc _).trans (Gr.ofBelow hbl5) (fun _ _ h => h)
          have q1 := conv43 (c := c) (HR.out.below (HB2.out.trans ((HB4.out.trans hg5 (fun _ _ h => h)).toBelow.mono hsz2))) HNIL.out HLT.out
          have q2 := conv_own HOW2.out HLT.out w5 (HB4.out.trans hg5 (fun _ _ h => h))
          have q3 := conv_own HOW4.out HLT.out w5 hg5
          have q4 := conv_own hown5 hlt5 w5 (Chg.refl _ _)
          rw [show bytesStr [5] = ⟨#[5]⟩ from rfl] at q4
          replace q4 : (convert 43 9 (.slice A6 1 c6)).run Try.prog w5 = .ok (.string ⟨#[5]⟩) w5 := q4
          have HFIN : Hid (Below w.heap.size w w5) := HB2.out.trans ((HB4.out.trans hg5 (fun _ _ h => h)).toBelow.mono hsz2)
          rw [HD.out] at q2 q3 ⊢
          clear hown5 hvec5 hlt5 hbl5 hg5
          go_wp2
          go_ret
          exact ⟨rfl, HFIN.out⟩

set_option maxHeartbeats 1000000 in
theorem fnBitsOf_any (A : Option Addr) (n c : Nat) (D : List Nat) (w : World) (hr : Reads w (fun _ => True) 1 A n (bytes D)) (hnil : A = none → n = 0 ∧ c = 0) (hlt : ∀ b ∈ D, b < 256) :
    Calls Try.prog 6 #[.slice A n c] w fun e w' => e = .returned (.bool true) ∧ Below w.heap.size w w' := by
  by_cases hn : n ≤ 20
  · exact fnBitsOf_some A n c D w hr hnil hlt hn
  · clear hr hnil hlt
    by_cases h2 : n ≤ 2147483647
    · go_enter Try.func6, Try.ntmps6
      go_wp2
      all_goals
        go_ret
        exact ⟨rfl, Below.refl _ _⟩
    · go_enter Try.func6, Try.ntmps6
      go_wp2
      all_goals
        go_ret
        exact ⟨rfl, Below.refl _ _⟩
end Go.Proofs.Ytammpllfmbmdmaa
