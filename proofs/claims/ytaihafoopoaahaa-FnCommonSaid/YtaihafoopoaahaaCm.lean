/- The walks of spec.Has, common, Common and Longest. Under sizes alone. -/
import Derived.Test.YtaihafoopoaahaaCk
namespace Go.Proofs.Ytaihafoopoaahaa
open Go.RowKit
attribute [local go_sem] S_size S_toList E_toList S_extract

/-- It answers whether Q holds, and changes nothing. -/
def BoolOut (Q : Prop) (w : World) (e : Ending) (w' : World) : Prop := ∃ b, e = .returned (.bool b) ∧ (b = true ↔ Q) ∧ w' = w

theorem S_inj {a b : Bs} (h : S a = S b) : a = b := by
  have := congrArg ByteArray.toList h
  rwa [S_toList, S_toList] at this
theorem infix_iff {s x : Bs} : x <:+: s ↔ ∃ j, j + x.length ≤ s.length ∧ (s.take (j + x.length)).drop j = x := by
  constructor
  · rintro ⟨a, b, rfl⟩
    refine ⟨a.length, by simp, ?_⟩
    rw [List.take_append_of_le_length (by simp), List.take_of_length_le (by simp), List.drop_left]
  · rintro ⟨j, h1, h2⟩
    rw [← h2]
    exact (List.drop_suffix _ _).isInfix.trans (List.take_prefix _ _).isInfix

set_option linter.unusedSimpArgs false in
set_option linter.unusedVariables false in
set_option maxHeartbeats 1000000 in
set_option maxRecDepth 100000 in
theorem has_any (s x : Bs) (w : World) (hs : s.length ≤ 1000) (hx : x.length ≤ 1000) :
    Calls Try.prog 17 #[.string (S s), .string (S x)] w (BoolOut (x <:+: s) w) := by
  go_enter Try.func17, Try.ntmps17
  go_wp2
  go_loopw [5] (fun s5 wr => ∃ i : Nat, s5 = .int .i64 i ∧ i ≤ s.length + 1 ∧ w = wr ∧ Hid (∀ j, j < i → j + x.length ≤ s.length → (s.take (j + x.length)).drop j ≠ x)) (fun s5 _ => s.length + 2 - (intOf s5).toNat)
  case atStart => exact ⟨0, rfl, by omega, by trivial, (fun j hj => by omega : ∀ j, j < 0 → j + x.length ≤ s.length → (s.take (j + x.length)).drop j ≠ x)⟩
  case round =>
    obtain ⟨i, rfl, hi, rfl, HI⟩ := hrel
    by_cases hle : i + x.length ≤ s.length
    · have hd1 : decide ((i : Int) + (x.length : Int) ≤ (s.length : Int)) = true := by simp; omega
      have hd2 : (i : Int) + (x.length : Int) ≤ (s.length : Int) := by omega
      by_cases he : (s.take (i + x.length)).drop i = x
      · have he2 : ((s.take (i + x.length)).drop i == x) = true := beq_iff_eq.2 he
        have HF : Hid (x <:+: s) := hide (infix_iff.2 ⟨i, hle, he⟩)
        clear he
        go_wp2
        go_ret
        exact ⟨true, rfl, ⟨fun _ => HF.out, fun _ => rfl⟩, rfl⟩
      · have he2 : ((s.take (i + x.length)).drop i == x) = false := beq_eq_false_iff_ne.2 he
        have HI2 : Hid (∀ j, j < i + 1 → j + x.length ≤ s.length → (s.take (j + x.length)).drop j ≠ x) := fun j hj => by
          rcases Nat.lt_succ_iff_lt_or_eq.1 hj with h1 | h1
          · exact HI.out j h1
          · subst h1; exact fun _ => he
        clear he
        go_wp2
        exact ⟨⟨i + 1, by go_num, by omega, by trivial, HI2⟩, by simp [intOf]; omega⟩
    · have hd1 : decide ((i : Int) + (x.length : Int) ≤ (s.length : Int)) = false := by simp; omega
      have hd2 : ¬ (i : Int) + (x.length : Int) ≤ (s.length : Int) := by omega
      have HF : Hid (¬ x <:+: s) := fun h => by
        obtain ⟨j, h1, h2⟩ := infix_iff.1 h
        exact HI.out j (by omega) h1 h2
      clear HI
      go_wp2
      go_ret
      exact ⟨false, rfl, ⟨fun h => (by cases h), fun h => absurd h HF.out⟩, rfl⟩

def strs (l : List Bs) : List Value := l.map (fun b => .string (S b))

set_option linter.unusedSimpArgs false in
set_option linter.unusedVariables false in
set_option maxHeartbeats 1000000 in
set_option maxRecDepth 100000 in
theorem comm_any (l : List Bs) (x : Bs) (K : Nat → Prop) (A : Option Addr) (n c : Nat) (w : World) (hr : Reads w K 1 A n (strs l)) (hn : n ≤ 1000) (hx : x.length ≤ 1000) (hl : ∀ t ∈ l, t.length ≤ 1000) :
    Calls Try.prog 14 #[.string (S x), .slice A n c] w (BoolOut (∀ t ∈ l, x <:+: t) w) := by
  have hln : l.length = n := by have := hr.1; simpa [strs] using this
  have HR := hide hr
  have HL := hide hl
  clear hr hl
  go_enter Try.func14, Try.ntmps14
  go_wp2
  go_loopw [9] (fun s9 wr => ∃ i : Nat, s9 = .int .i64 i ∧ i ≤ n ∧ w = wr ∧ Hid (∀ j, j < i → ∀ t, l[j]? = some t → x <:+: t)) (fun s9 _ => n - (intOf s9).toNat)
  case atStart => exact ⟨0, rfl, by omega, by trivial, (fun j hj => by omega : ∀ j, j < 0 → ∀ t, l[j]? = some t → x <:+: t)⟩
  case round =>
    obtain ⟨i, rfl, hi, rfl, HI⟩ := hrel
    by_cases hin : i < n
    · obtain ⟨ad, u, rfl, _, hu, hc⟩ := HR.out.at_ hin
      obtain ⟨t, ht⟩ : ∃ t, l[i]? = some t := ⟨_, List.getElem?_eq_getElem (by omega)⟩
      have hu2 : u = .string (S t) := by
        rw [strs, List.getElem?_map, ht] at hu
        simpa using hu.symm
      subst hu2
      have htl := HL.out t (List.mem_of_getElem? ht)
      have HH := hide (has_any t x w htl hx)
      have HT := hide ht
      clear hu ht
      go_wp2_with fail
      refine HH.out.mono ?_
      rintro _ _ ⟨b, rfl, hb, rfl⟩
      have HB := hide hb
      clear hb HH
      cases b with
      | true =>
        have HI2 : Hid (∀ j, j < i + 1 → ∀ t, l[j]? = some t → x <:+: t) := fun j hj t' ht' => by
          rcases Nat.lt_succ_iff_lt_or_eq.1 hj with h1 | h1
          · exact HI.out j h1 t' ht'
          · subst h1
            rw [HT.out] at ht'
            injection ht' with ht'
            rw [← ht']
            exact HB.out.1 rfl
        go_wp2
        exact ⟨⟨i + 1, by go_num, by omega, by trivial, HI2⟩, by simp [intOf]; omega⟩
      | false =>
        have HF : Hid (¬ ∀ t ∈ l, x <:+: t) := fun h => by
          have := HB.out.2 (h t (List.mem_of_getElem? HT.out))
          cases this
        clear HI HB HT
        go_wp2
        go_ret
        exact ⟨false, rfl, ⟨fun h => (by cases h), fun h => absurd h HF.out⟩, rfl⟩
    · obtain rfl : n = i := by omega
      have HF : Hid (∀ t ∈ l, x <:+: t) := fun t ht => by
        obtain ⟨j, hj⟩ := List.getElem?_of_mem ht
        exact HI.out j (by have := (List.getElem?_eq_some_iff.1 hj).1; omega) t hj
      clear HI
      go_wp2
      go_ret
      exact ⟨true, rfl, ⟨fun _ => HF.out, fun _ => rfl⟩, rfl⟩

set_option maxHeartbeats 1000000 in
set_option maxRecDepth 100000 in
theorem comm9_any (l : List Bs) (x : Bs) (K : Nat → Prop) (A : Option Addr) (n c : Nat) (w : World) (hr : Reads w K 1 A n (strs l)) (hn : n ≤ 1000) (hx : x.length ≤ 1000) (hl : ∀ t ∈ l, t.length ≤ 1000) :
    Calls Try.prog 9 #[.string (S x), .slice A n c] w (BoolOut (∀ t ∈ l, x <:+: t) w) := by
  have HC := hide (comm_any l x K A n c w hr hn hx hl)
  clear hr hl
  go_enter Try.func9, Try.ntmps9
  go_wp2_with fail
  refine HC.out.mono ?_
  rintro _ _ ⟨b, rfl, hb, rfl⟩
  have HB := hide hb
  clear hb HC
  go_wp2
  go_ret
  exact ⟨b, rfl, HB.out, rfl⟩

/-- The text is in all texts of the list. -/
def InAll (l : List Bs) (x : Bs) : Prop := ∀ t ∈ l, x <:+: t
/-- The best length is one of a common text; what is asked for so far is no longer. -/
def Bst (l : List Bs) (t0 : Bs) (best : Nat) (P : Nat → Nat → Prop) : Prop := (∃ x, InAll l x ∧ x.length = best) ∧ ∀ f tt, f < tt → tt ≤ t0.length → P f tt → InAll l ((t0.take tt).drop f) → tt - f ≤ best
def LongOut (l : List Bs) (t0 : Bs) (w : World) (e : Ending) (w' : World) : Prop := ∃ best : Nat, e = .returned (.int .i64 (best : Int)) ∧ Bst l t0 best (fun _ _ => True) ∧ w' = w

set_option linter.unusedSimpArgs false in
set_option linter.unusedVariables false in
set_option maxHeartbeats 1000000 in
set_option maxRecDepth 100000 in
theorem longest_any (t0 : Bs) (l : List Bs) (K : Nat → Prop) (A : Option Addr) (n c : Nat) (w : World) (hr : Reads w K 1 A n (strs l)) (h0 : l[0]? = some t0) (hn : n ≤ 1000) (hl : ∀ t ∈ l, t.length ≤ 1000) :
    Calls Try.prog 10 #[.slice A n c] w (LongOut l t0 w) := by
  have hln : l.length = n := by have := hr.1; simpa [strs] using this
  have hn0 : 0 < n := by have := (List.getElem?_eq_some_iff.1 h0).1; omega
  obtain ⟨ad, u, rfl, hadl, hu, hc⟩ := hr.at_ hn0
  have hu2 : u = .string (S t0) := by
    rw [strs, List.getElem?_map, h0] at hu
    simpa using hu.symm
  subst hu2
  have hc0 : w.cell? ad = some (.string (S t0)) := by simpa [Addr.add] using hc
  have ht0 := hl t0 (List.mem_of_getElem? h0)
  have HC : Hid (∀ x, x.length ≤ 1000 → Calls Try.prog 14 #[.string (S x), .slice (some ad) n c] w (BoolOut (InAll l x) w)) := fun x hx => comm_any l x K (some ad) n c w hr hn hx hl
  have hnz : (0 : Int) < (n : Int) := by omega
  clear hr h0 hl hu hc
  go_enter Try.func10, Try.ntmps10
  go_wp2
  go_loopw [3, 10] (fun s3 s10 wr => ∃ i best : Nat, s10 = .int .i64 i ∧ s3 = .int .i64 best ∧ i ≤ t0.length ∧ best ≤ 1000 ∧ w = wr ∧ Hid (Bst l t0 best (fun f _ => f < i))) (fun _ s10 _ => t0.length - (intOf s10).toNat)
  case atStart => exact ⟨0, 0, rfl, rfl, by omega, by omega, by trivial, (⟨⟨[], fun t _ => List.nil_infix, rfl⟩, fun f tt _ _ h => by omega⟩ : Bst l t0 0 (fun f _ => f < 0))⟩
  case round =>
    obtain ⟨i, best, rfl, rfl, hi, hb, rfl, HB⟩ := hrel
    by_cases hin : i < t0.length
    · have HB2 : Hid (Bst l t0 best (fun f tt => f < i ∨ (f = i ∧ tt < i + 1))) := hide ⟨HB.out.1, fun f tt h1 h2 h3 h4 => by
        rcases h3 with h3 | h3
        · exact HB.out.2 f tt h1 h2 h3 h4
        · omega⟩
      clear HB
      go_wp2
      go_loopw [3, 5] (fun s3 s5 wr => ∃ tt best : Nat, s5 = .int .i64 tt ∧ s3 = .int .i64 best ∧ i + 1 ≤ tt ∧ tt ≤ t0.length + 1 ∧ best ≤ 1000 ∧ w = wr ∧ Hid (Bst l t0 best (fun f t => f < i ∨ (f = i ∧ t < tt)))) (fun _ s5 _ => t0.length + 1 - (intOf s5).toNat)
      case atStart => exact ⟨i + 1, best, by go_num, rfl, by omega, by omega, hb, by trivial, HB2⟩
      case round =>
        obtain ⟨tt, best, rfl, rfl, ht1, ht2, hb, rfl, HB⟩ := hrel
        clear HB2
        by_cases hto : tt ≤ t0.length
        · have hw9 : IntKind.i64.wrap ((tt : Int) - (i : Int)) = (tt : Int) - (i : Int) := by rw [IntKind.wrap_i64]; omega
          have hd0 : decide ((tt : Int) ≤ (t0.length : Int)) = true := by simp; omega
          by_cases hgt : best < tt - i
          · have hd1 : decide ((tt : Int) - (i : Int) > (best : Int)) = true := by simp; omega
            have hd2 : decide ((best : Int) < (tt : Int) - (i : Int)) = true := by simp; omega
            have hxl : ((t0.take tt).drop i).length = tt - i := by rw [List.length_drop, List.length_take]; omega
            have HX := hide (HC.out ((t0.take tt).drop i) (by omega))
            have hi0 : (i : Int) ≤ (tt : Int) := by omega
            go_wp2_with fail
            refine HX.out.mono ?_
            rintro _ _ ⟨b, rfl, hbq, rfl⟩
            have HBQ := hide hbq
            clear hbq HX
            cases b with
            | true =>
              have HB3 : Hid (Bst l t0 (tt - i) (fun f t => f < i ∨ (f = i ∧ t < tt + 1))) := hide ⟨⟨_, HBQ.out.1 rfl, hxl⟩, fun f t h1 h2 h3 h4 => by
                rcases h3 with h3 | ⟨h3, h5⟩
                · have := HB.out.2 f t h1 h2 (Or.inl h3) h4; omega
                · omega⟩
              clear HB HBQ
              go_wp2
              exact ⟨⟨tt + 1, tt - i, by go_num, by go_num, by omega, by omega, by omega, by trivial, HB3⟩, by simp [intOf]; omega⟩
            | false =>
              have HB3 : Hid (Bst l t0 best (fun f t => f < i ∨ (f = i ∧ t < tt + 1))) := hide ⟨HB.out.1, fun f t h1 h2 h3 h4 => by
                rcases h3 with h3 | ⟨h3, h5⟩
                · exact HB.out.2 f t h1 h2 (Or.inl h3) h4
                · rcases Nat.lt_succ_iff_lt_or_eq.1 h5 with h6 | h6
                  · exact HB.out.2 f t h1 h2 (Or.inr ⟨h3, h6⟩) h4
                  · subst h6; subst h3
                    have := HBQ.out.2 h4
                    cases this⟩
              clear HB HBQ
              go_wp2
              exact ⟨⟨tt + 1, best, by go_num, rfl, by omega, by omega, hb, by trivial, HB3⟩, by simp [intOf]; omega⟩
          · have hd1 : decide ((tt : Int) - (i : Int) > (best : Int)) = false := by simp; omega
            have hd2 : decide ((best : Int) < (tt : Int) - (i : Int)) = false := by simp; omega
            have HB3 : Hid (Bst l t0 best (fun f t => f < i ∨ (f = i ∧ t < tt + 1))) := hide ⟨HB.out.1, fun f t h1 h2 h3 h4 => by
              rcases h3 with h3 | ⟨h3, h5⟩
              · exact HB.out.2 f t h1 h2 (Or.inl h3) h4
              · rcases Nat.lt_succ_iff_lt_or_eq.1 h5 with h6 | h6
                · exact HB.out.2 f t h1 h2 (Or.inr ⟨h3, h6⟩) h4
                · omega⟩
            clear HB
            go_wp2
            exact ⟨⟨tt + 1, best, by go_num, rfl, by omega, by omega, hb, by trivial, HB3⟩, by simp [intOf]; omega⟩
        · have hd0 : decide ((tt : Int) ≤ (t0.length : Int)) = false := by simp; omega
          have HB3 : Hid (Bst l t0 best (fun f _ => f < i + 1)) := hide ⟨HB.out.1, fun f t h1 h2 h3 h4 => by
            rcases Nat.lt_succ_iff_lt_or_eq.1 h3 with h6 | h6
            · exact HB.out.2 f t h1 h2 (Or.inl h6) h4
            · exact HB.out.2 f t h1 h2 (Or.inr ⟨h6, by omega⟩) h4⟩
          clear HB
          go_wp2
          exact ⟨⟨i + 1, best, by go_num, rfl, by omega, hb, by trivial, HB3⟩, by simp [intOf]; omega⟩
    · have HF : Hid (Bst l t0 best (fun _ _ => True)) := hide ⟨HB.out.1, fun f t h1 h2 h3 h4 => HB.out.2 f t h1 h2 (by omega) h4⟩
      clear HB
      go_wp2
      go_ret
      exact ⟨best, rfl, HF.out, rfl⟩
end Go.Proofs.Ytaihafoopoaahaa
