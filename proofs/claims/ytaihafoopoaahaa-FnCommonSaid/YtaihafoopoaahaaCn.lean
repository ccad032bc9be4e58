/- The walk of the law FnCommon. No condition but sizes. -/
import Derived.Test.YtaihafoopoaahaaCm
namespace Go.Proofs.Ytaihafoopoaahaa
open Go.RowKit
attribute [local go_sem] S_size S_toList E_toList S_extract

def FitsOut (k : Nat) (w : World) (e : Ending) (w' : World) : Prop := ∃ b, e = .returned (.bool b) ∧ (b = true → k ≤ 2147483647) ∧ w' = w

set_option linter.unusedSimpArgs false in
set_option linter.unusedVariables false in
set_option maxHeartbeats 1000000 in
set_option maxRecDepth 100000 in
theorem fits2_any (k : Nat) (T : Nat → Bs) (AT : Nat → Option Addr) (cT : Nat → Nat) (A : Option Addr) (c : Nat) (w : World) (hT : Txs w A k T AT cT) :
    Calls Try.prog 7 #[.slice A k c] w (FitsOut k w) := by
  have HT := hide hT
  clear hT
  go_enter Try.func7, Try.ntmps7
  by_cases hbig : 2147483647 < k
  · have hd1 : decide ((k : Int) > 2147483647) = true := by simp; omega
    have hd2 : decide ((2147483647 : Int) < (k : Int)) = true := by simp; omega
    go_wp2
    go_ret
    exact ⟨false, rfl, fun h => (by cases h), rfl⟩
  · have hd1 : decide ((k : Int) > 2147483647) = false := by simp; omega
    have hd2 : decide ((2147483647 : Int) < (k : Int)) = false := by simp; omega
    go_wp2
    go_loopw [10] (fun s10 wr => ∃ i : Nat, s10 = .int .i64 i ∧ i ≤ k ∧ w = wr) (fun s10 _ => k - (intOf s10).toNat)
    case atStart => exact ⟨0, rfl, by omega, by trivial⟩
    case round =>
      obtain ⟨i, rfl, hi, rfl⟩ := hrel
      by_cases hik : i < k
      · obtain ⟨ad, rfl, _, hc⟩ := HT.out.cell i hik
        generalize (T i).length = ni at hc
        by_cases hb : 2147483647 < ni
        · have hd3 : decide ((ni : Int) > 2147483647) = true := by simp; omega
          have hd4 : decide ((2147483647 : Int) < (ni : Int)) = true := by simp; omega
          go_wp2
          go_ret
          exact ⟨false, rfl, fun h => (by cases h), rfl⟩
        · have hd3 : decide ((ni : Int) > 2147483647) = false := by simp; omega
          have hd4 : decide ((2147483647 : Int) < (ni : Int)) = false := by simp; omega
          go_wp2
          exact ⟨⟨i + 1, by go_num, by omega, by trivial⟩, by simp [intOf]; omega⟩
      · obtain rfl : k = i := by omega
        go_wp2
        go_ret
        exact ⟨true, rfl, fun _ => by omega, rfl⟩

/-- impl.Common of one text of one byte. -/
def OneOut (W : World) (e : Ending) (w' : World) : Prop := ∃ (A : Option Addr) (c : Nat), e = .returned (.slice A 1 c) ∧ (convert 22 9 (.slice A 1 c)).run Try.prog w' = .ok (.string ⟨#[1]⟩) w' ∧ Below W.heap.size W w'
theorem one_call (W : World) : Calls Try.prog 8 #[.slice (some ⟨W.heap.size + 1, 0, none⟩) 1 1] ((W.alloc (.cells #[.int .u8 1] 5)).alloc (.cells #[.slice (some ⟨W.heap.size, 0, none⟩) 1 1] 22)) (OneOut W) := by
  have hb1 : Blk ((W.alloc (.cells #[.int .u8 1] 5)).alloc (.cells #[.slice (some ⟨W.heap.size, 0, none⟩) 1 1] 22)) W.heap.size 5 #[.int .u8 1] := (Blk.new W 5 _).alloc _
  have hb2 : Blk ((W.alloc (.cells #[.int .u8 1] 5)).alloc (.cells #[.slice (some ⟨W.heap.size, 0, none⟩) 1 1] 22)) (W.heap.size + 1) 22 #[.slice (some ⟨W.heap.size, 0, none⟩) 1 1] := Blk.new_ _ 22 _ (by simp)
  refine (common_any 1 (fun _ => [1]) (fun _ => some ⟨W.heap.size, 0, none⟩) (fun _ => 1) (some ⟨W.heap.size + 1, 0, none⟩) 1 _ ⟨fun i hi => ?_, fun i _ => ?_, fun _ _ => Nat.le_refl _, fun _ _ h => (by cases h)⟩ (Nat.le_refl _) (by omega) (fun _ _ => by simp)).mono ?_
  · obtain rfl : i = 0 := by omega
    refine ⟨_, rfl, hb2.lt, ?_⟩
    rw [add_plain, hb2.cell]
    rfl
  · refine ⟨rfl, fun _ => ⟨_, rfl, hb1.lt, hb1.lt, fun j u hu => ?_⟩⟩
    match j, hu with
    | 0, hu =>
      simp at hu
      subst hu
      rw [add_plain, hb1.cell]
      rfl
  · rintro e w' ⟨z, A, c, h1, h2, h3, h4, h5, h6⟩
    have h7 := h5 0 (by omega)
    have h8 := h6 [1] (fun _ _ => List.infix_refl _)
    have h9 : z = [1] := h7.eq_of_length_le (by simpa using h8)
    subst h9
    exact ⟨A, c, h1, conv22 h2 (fun h => h3 h), ((Below.refl _ W).alloc (Nat.le_refl _) _).alloc (by simp) _ |>.trans (h4.mono (by simp; omega))⟩

/-- The texts so far. -/
def txts (T : Nat → Bs) (i : Nat) : List Bs := (List.range i).map T
theorem txts_len (T : Nat → Bs) (i : Nat) : (txts T i).length = i := by simp [txts]
theorem txts_get {T : Nat → Bs} {k i : Nat} (hi : i < k) : (txts T k)[i]? = some (T i) := by simp [txts, hi]
theorem txts_succ (T : Nat → Bs) (i : Nat) : strs (txts T (i + 1)) = strs (txts T i) ++ [.string (S (T i))] := by simp [txts, strs, List.range_succ]
theorem txts_mem {T : Nat → Bs} {k : Nat} {t : Bs} : t ∈ txts T k ↔ ∃ i, i < k ∧ T i = t := by simp [txts]

structure Lw (w0 : World) (T : Nat → Bs) (i : Nat) (v : Value) (W : World) : Prop where
  own : W.ownsRow w0.heap.size 9 1 v i (strs (txts T i))
  bel : Below w0.heap.size w0 W
  short : ∀ j, j < i → (T j).length ≤ 60

theorem info9 : (Try.prog.info? 9).map (fun i => (i.zero, i.size, i.bytes)) = some (some (.string ⟨#[]⟩), 1, 16) := by kernel_rfl

/-- The answer is that of the specification. -/
theorem best_eq {k : Nat} {T : Nat → Bs} {z : Bs} {best : Nat} (hk : 0 < k) (hcom : ∀ i, i < k → z <:+: T i) (hmax : ∀ x, (∀ i, i < k → x <:+: T i) → x.length ≤ z.length) (hb : Bst (txts T k) (T 0) best (fun _ _ => True)) : best = z.length := by
  obtain ⟨⟨x, hx, hxl⟩, h2⟩ := hb
  have h3 := hmax x (fun i hi => hx _ (txts_mem.2 ⟨i, hi, rfl⟩))
  rcases Nat.eq_zero_or_pos z.length with h0 | h0
  · omega
  · obtain ⟨j, h4, h5⟩ := infix_iff.1 (hcom 0 hk)
    have h6 := h2 j (j + z.length) (by omega) h4 trivial (by
      rw [h5]
      intro t ht
      obtain ⟨i, hi, rfl⟩ := txts_mem.1 ht
      exact hcom i hi)
    omega

def LawOut (w : World) (e : Ending) (w' : World) : Prop := e = .returned (.bool true) ∧ Below w.heap.size w w'

set_option linter.unusedSimpArgs false in
set_option linter.unusedVariables false in
set_option maxHeartbeats 4000000 in
set_option maxRecDepth 100000 in
theorem fnCommon_any (k : Nat) (T : Nat → Bs) (AT : Nat → Option Addr) (cT : Nat → Nat) (A : Option Addr) (c : Nat) (w : World) (hT : Txs w A k T AT cT) :
    Calls Try.prog 4 #[.slice A k c] w (LawOut w) := by
  have HT := hide hT
  have HFI := hide (fits2_any k T AT cT A c w hT)
  obtain ⟨i9, hi9, hz0, hz1, hz2⟩ := info_parts info9
  clear hT
  go_enter Try.func4, Try.ntmps4
  go_wp2_with fail
  refine HFI.out.mono ?_
  rintro _ w1 ⟨b, rfl, hb, hw⟩
  have hw2 := hw.symm
  clear hw
  subst hw2
  clear HFI
  cases b with
  | false =>
    go_wp2
    go_ret
    exact ⟨rfl, Below.refl _ _⟩
  | true =>
    have hkb := hb rfl
    clear hb
    go_wp2
    go_loopw [3, 12] (fun s3 s12 wr => ∃ i : Nat, s12 = .int .i64 i ∧ i ≤ k ∧ (0 < i → k ≤ 8) ∧ Hid (Lw w T i s3 wr)) (fun _ s12 _ => k - (intOf s12).toNat)
    case atStart => exact ⟨0, rfl, by omega, fun h => by omega, (⟨World.ownsRow_nil _ _ _ _, Below.refl _ _, fun j hj => by omega⟩ : Lw w T 0 (.slice none 0 0) w)⟩
    case round =>
      obtain ⟨i, rfl, hi, hk8, HL⟩ := hrel
      by_cases hik : i < k
      · obtain ⟨ad, rfl, hadl, hc0⟩ := HT.out.cell i hik
        have hc : wr.cell? (ad.add i) = some (.slice (AT i) (T i).length (cT i)) := (HL.out.bel.cell (p := ad.add i) (by rw [block_of_add]; exact hadl)).trans hc0
        clear hc0
        have HOC := hide (one_call wr)
        have HB := hide HL.out.bel
        obtain ⟨ni, hni⟩ : ∃ ni, ni = (T i).length := ⟨_, rfl⟩
        by_cases h60 : 60 < (T i).length
        · rw [← hni] at hc h60
          have hd1 : decide ((ni : Int) > 60) = true := by simp; omega
          have hd2 : decide ((60 : Int) < (ni : Int)) = true := by simp; omega
          clear hni HL HT
          go_wp2_with fail
          refine HOC.out.mono ?_
          rintro _ w2 ⟨A', c', rfl, hcv, hb⟩
          have HB2 : Hid (Below w.heap.size w w2) := hide (HB.out.trans (hb.mono HB.out.size))
          clear hb HB HOC hc
          go_wp2
          go_ret
          exact ⟨rfl, HB2.out⟩
        · have HS : Hid ((T i).length ≤ 60) := hide (by omega)
          rw [← hni] at hc h60
          have hd1 : decide ((ni : Int) > 60) = false := by simp; omega
          have hd2 : decide ((60 : Int) < (ni : Int)) = false := by simp; omega
          by_cases h8 : 8 < k
          · have hd3 : decide ((k : Int) > 8) = true := by simp; omega
            have hd4 : decide ((8 : Int) < (k : Int)) = true := by simp; omega
            clear hni HL HT HS
            go_wp2_with fail
            refine HOC.out.mono ?_
            rintro _ w2 ⟨A', c', rfl, hcv, hb⟩
            have HB2 : Hid (Below w.heap.size w w2) := hide (HB.out.trans (hb.mono HB.out.size))
            clear hb HB HOC hc
            go_wp2
            go_ret
            exact ⟨rfl, HB2.out⟩
          · have hd3 : decide ((k : Int) > 8) = false := by simp; omega
            have hd4 : decide ((8 : Int) < (k : Int)) = false := by simp; omega
            have hcv : (convert 22 9 (.slice (AT i) ni (cT i))).run Try.prog wr = .ok (.string (S (T i))) wr := by
              rw [hni]
              refine conv22 ((HT.out.below HL.out.bel).txt i hik) (fun h => ⟨?_, HT.out.nil i hik h⟩)
              rcases Nat.eq_zero_or_pos (T i).length with h1 | h1
              · exact h1
              · obtain ⟨ad', e, _⟩ := ((HT.out.below HL.out.bel).txt i hik).2 h1
                rw [h] at e
                cases e
            clear hni HOC HB
            go_wp2_with
              (at_builtin
               go_must (refine wpList_append1 rfl _ _ 29 rfl w.heap.size 9 i9 (.string ⟨#[]⟩) 16 Try.underlying29 hi9 hz0 hz1 hz2 rfl u3 i _ rfl (World.ownsRow.alloc HL.out.own _) _ 1 (.string (S (T i))) rfl ((Blk.new_ (n := wr.heap.size) wr 9 #[.string (S (T i))] rfl).cell 0) rfl (by unfold maxLen; omega) (by omega) (by have h9 := HL.out.bel.size; simp; omega) ?_)
               intro g1 cp w2 hO _ hG hat hg1
               have HF : Hid (Lw w T (i + 1) (.slice (some ⟨g1, 0, none⟩) (i + 1) cp) w2) := by
                 refine hide ⟨by rw [txts_succ]; exact hO, own_append_below HL.out.own HL.out.bel hG (Nat.le_refl _) HL.out.bel.size, fun j hj => ?_⟩
                 rcases Nat.lt_succ_iff_lt_or_eq.1 hj with h1 | h1
                 · exact HL.out.short j h1
                 · subst h1; exact HS.out
               clear hO hG hat)
            exact ⟨⟨i + 1, by go_num, by omega, fun _ => by omega, HF⟩, by simp [intOf]; omega⟩
      · obtain rfl : k = i := by omega
        have HOC := hide (one_call wr)
        have HB := hide HL.out.bel
        by_cases h0 : k = 0
        · subst h0
          clear HL HT
          go_wp2_with fail
          refine HOC.out.mono ?_
          rintro _ w2 ⟨A', c', rfl, hcv, hb⟩
          have HB2 : Hid (Below w.heap.size w w2) := hide (HB.out.trans (hb.mono HB.out.size))
          clear hb HB HOC
          go_wp2
          go_ret
          exact ⟨rfl, HB2.out⟩
        · have he0 : ((k : Int) == 0) = false := by rw [beq_eq_false_iff_ne]; omega
          have hk8' := hk8 (by omega)
          have hlen : ∀ j, j < k → (T j).length ≤ 1000 := fun j hj => by have := HL.out.short j hj; omega
          have HCM := hide (common_any k T AT cT A c wr (HT.out.below HL.out.bel) (by omega) (by omega) hlen)
          obtain ⟨A3, c3, rfl, hrd⟩ := own_reads HL.out.own
          have HLN := hide hlen
          clear HOC hlen hk8
          go_wp2_with fail
          refine HCM.out.mono ?_
          rintro _ w2 ⟨z, A', c', rfl, hz1, hz2', hz3, hz4, hz5⟩
          have hcv : (convert 22 9 (.slice A' z.length c')).run Try.prog w2 = .ok (.string (S z)) w2 := conv22 hz1 hz2'
          have hzl : z.length ≤ 1000 := Nat.le_trans (hz4 0 (by omega)).length_le (HLN.out 0 (by omega))
          have hr2 := hrd.below hz3
          have HBL : Hid (∀ t ∈ txts T k, t.length ≤ 1000) := fun t ht => by
            obtain ⟨j, hj, rfl⟩ := txts_mem.1 ht
            exact HLN.out j hj
          have HC9 := hide (comm9_any (txts T k) z _ A3 k c3 w2 hr2 (by omega) hzl HBL.out)
          have HC10 := hide (longest_any (T 0) (txts T k) _ A3 k c3 w2 hr2 (txts_get (by omega)) (by omega) HBL.out)
          have HB2 : Hid (Below w.heap.size w w2) := hide (HL.out.bel.trans (hz3.mono HL.out.bel.size))
          have HCOM := hide hz4
          have HMAX := hide hz5
          have HOC := hide (one_call w2)
          clear hz1 hz2' hz3 hz4 hz5 hrd hr2 HL HT HCM HB
          go_wp2_with fail
          refine HC9.out.mono ?_
          rintro _ w4 ⟨b, rfl, hb, hw⟩
          have hw4 := hw.symm
          clear hw
          subst hw4
          obtain rfl : b = true := hb.2 (fun t ht => by
            obtain ⟨j, hj, rfl⟩ := txts_mem.1 ht
            exact HCOM.out j hj)
          clear hb HC9 hcv
          go_wp2_with fail
          refine HC10.out.mono ?_
          rintro _ w4 ⟨best, rfl, hbest, hw⟩
          have hw4 := hw.symm
          clear hw
          subst hw4
          have hbe := best_eq (by omega) HCOM.out HMAX.out hbest
          subst hbe
          clear hbest HC10
          go_wp2_with fail
          refine HOC.out.mono ?_
          rintro _ w5 ⟨A5, c5, rfl, hcv, hb⟩
          have HB5 : Hid (Below w.heap.size w w5) := hide (HB2.out.trans (hb.mono HB2.out.size))
          clear hb HB2 HOC
          go_wp2
          go_ret
          exact ⟨rfl, HB5.out⟩
end Go.Proofs.Ytaihafoopoaahaa
