/- The walk of spec.Begun. Under sizes alone. -/
import Derived.Test.YtjekaagjgamfkaaDoorIns
import Derived.Deep.QuietTactic
import Derived.BigQuiet
import Derived.Lib.Walk
namespace Go.Proofs.YtjekaagjgamfkaaDoor
open Go.RowKit
attribute [local go_sem] S_size S_toList E_toList S_extract

/-- Entries as a slice's cells. -/
def ents (E : List (Bs × Int)) : List Value := E.flatMap (fun p => [.string (S p.1), .int .i64 p.2])
theorem ents_len : ∀ E : List (Bs × Int), (ents E).length = E.length * 2
  | [] => rfl
  | p :: E => by
    have := ents_len E
    have h : ents (p :: E) = [.string (S p.1), .int .i64 p.2] ++ ents E := rfl
    rw [h, List.length_append, this]
    simp; omega
theorem ents_at : ∀ {E : List (Bs × Int)} {i : Nat} {p : Bs × Int}, E[i]? = some p → (ents E)[i * 2]? = some (.string (S p.1)) ∧ (ents E)[i * 2 + 1]? = some (.int .i64 p.2)
  | q :: E, 0, p, h => by
    simp at h; subst h
    exact ⟨rfl, rfl⟩
  | q :: E, i + 1, p, h => by
    have h1 := ents_at (E := E) (i := i) (p := p) (by simpa using h)
    have e : ents (q :: E) = [.string (S q.1), .int .i64 q.2] ++ ents E := rfl
    rw [e, List.getElem?_append_right (by simp; omega), List.getElem?_append_right (by simp; omega)]
    have e1 : (i + 1) * 2 - [Value.string (S q.1), Value.int .i64 q.2].length = i * 2 := by simp; omega
    have e2 : (i + 1) * 2 + 1 - [Value.string (S q.1), Value.int .i64 q.2].length = i * 2 + 1 := by simp; omega
    rw [e1, e2]
    exact h1

/-- The slice with address A reads as the entries. -/
def RdP (w : World) (A : Option Addr) (E : List (Bs × Int)) : Prop :=
  ∀ i p, E[i]? = some p → ∃ g, A = some ⟨g, 0, none⟩ ∧ g < w.heap.size ∧ w.cell? ⟨g, i * 2, none⟩ = some (.string (S p.1)) ∧ w.cell? ⟨g, i * 2 + 1, none⟩ = some (.int .i64 p.2)
theorem RdP.below {w w' : World} {A : Option Addr} {E : List (Bs × Int)} (h : RdP w A E) (hb : Below w.heap.size w w') : RdP w' A E := by
  intro i e he
  obtain ⟨g, e1, h1, h2, h3⟩ := h i e he
  exact ⟨g, e1, Nat.lt_of_lt_of_le h1 hb.size, (hb.cell (p := ⟨g, i * 2, none⟩) h1).trans h2, (hb.cell (p := ⟨g, i * 2 + 1, none⟩) h1).trans h3⟩
theorem RdP.of_own {w : World} {B ty n c : Nat} {A : Option Addr} {E : List (Bs × Int)} (h : w.ownsRow B ty 2 (.slice A n c) n (ents E)) : RdP w A E := by
  intro i e he
  have hl := (List.getElem?_eq_some_iff.1 he).1
  have hn : n * 2 = E.length * 2 := by rw [← ents_len]; exact h.1.symm
  obtain ⟨g, cap, hv, _, hlt⟩ := h.form (by omega)
  have hA : A = some ⟨g, 0, none⟩ := by injection hv
  subst hA
  have hc := h.cells (g := g) rfl
  have e0 := hc _ _ (ents_at he).1
  have e1 := hc _ _ (ents_at he).2
  rw [add_plain, Nat.zero_add] at e0 e1
  exact ⟨g, rfl, hlt, e0, e1⟩

/-- What spec.Begun gathers. -/
def bgIn (q : Bs) (most : Int) : List Int → List (Bs × Int) → List Int
  | out, [] => out
  | out, p :: E => bgIn q most (if p.1 = q ∧ (most ≤ 0 ∨ (out.length : Int) < most) then out ++ [p.2] else out) E
def bg (E : List (Bs × Int)) (str : Bs) (most : Int) : Nat → List Int
  | 0 => []
  | k + 1 => bgIn (str.take k) most (bg E str most k) E
theorem bgIn_len (q : Bs) (most : Int) : ∀ (E : List (Bs × Int)) (out : List Int), (bgIn q most out E).length ≤ out.length + E.length
  | [], out => Nat.le_refl _
  | p :: E, out => by
    have := bgIn_len q most E (if p.1 = q ∧ (most ≤ 0 ∨ (out.length : Int) < most) then out ++ [p.2] else out)
    show (bgIn q most _ E).length ≤ _
    split at this <;> simp at this ⊢ <;> (try split) <;> simp_all <;> omega
theorem bgIn_mono (q : Bs) (most : Int) : ∀ (E : List (Bs × Int)) (out : List Int), out.length ≤ (bgIn q most out E).length
  | [], out => Nat.le_refl _
  | p :: E, out => by
    have := bgIn_mono q most E (if p.1 = q ∧ (most ≤ 0 ∨ (out.length : Int) < most) then out ++ [p.2] else out)
    refine Nat.le_trans ?_ this
    split <;> simp
theorem bg_len (E : List (Bs × Int)) (str : Bs) (most : Int) : ∀ k, (bg E str most k).length ≤ k * E.length
  | 0 => by simp [bg]
  | k + 1 => by
    have h1 := bg_len E str most k
    have h2 := bgIn_len (str.take k) most E (bg E str most k)
    show (bgIn _ _ _ _).length ≤ _
    rw [Nat.add_mul, Nat.one_mul]
    omega

def BgOut (w : World) (L : List Int) (e : Ending) (w' : World) : Prop := ∃ v, e = .returned v ∧ w'.ownsRow w.heap.size 3 1 v L.length (ints L) ∧ Below w.heap.size w w'

/-- The list in the middle of it. -/
structure BgSt (w wr : World) (v : Value) (L : List Int) : Prop where
  own : wr.ownsRow w.heap.size 3 1 v L.length (ints L)
  bel : Below w.heap.size w wr

theorem info3' : (Tryd.prog.info? 3).map (fun i => (i.zero, i.size, i.bytes)) = some (some (.int .i64 0), 1, 8) := by kernel_rfl

set_option linter.unusedSimpArgs false in
set_option linter.unusedVariables false in
set_option maxHeartbeats 4000000 in
set_option maxRecDepth 100000 in
theorem begun_any (A : Option Addr) (c : Nat) (E : List (Bs × Int)) (str : Bs) (most : Int) (w : World) (hr : RdP w A E) (hE : E.length ≤ 1024) (hs : str.length ≤ 1024) :
    Calls Tryd.prog 9 #[.slice A E.length c, .string (S str), .int .i64 most] w (BgOut w (bg E str most (str.length + 1))) := by
  have HR := hide hr
  obtain ⟨i0, hi3, hz0, hz1, hz2⟩ := info_parts info3'
  have HZ := hide (And.intro hz0 (And.intro hz1 hz2))
  have hw1 : IntKind.i64.wrap ((str.length : Int) + 1) = (str.length : Int) + 1 := by rw [IntKind.wrap_i64]; omega
  clear hr hz0 hz1 hz2
  go_enter Tryd.func9, Tryd.ntmps9
  go_wp2
  go_loopw [7, 14] (fun s7 s14 wr => ∃ k : Nat, s14 = .int .i64 k ∧ k ≤ str.length + 1 ∧ w.heap.size ≤ wr.heap.size ∧ Hid (BgSt w wr s7 (bg E str most k))) (fun _ s14 _ => str.length + 1 - (intOf s14).toNat)
  case atStart => exact ⟨0, rfl, Nat.zero_le _, Nat.le_refl _, (⟨World.ownsRow_nil _ _ _ _, Below.refl _ _⟩ : BgSt w w _ _)⟩
  case round =>
    obtain ⟨k, rfl, hk, hsz, HI⟩ := hrel
    by_cases hlt : k < str.length + 1
    · have hd1 : decide ((k : Int) < (str.length : Int) + 1) = true := decide_eq_true (by omega)
      have hbl := bg_len E str most k
      have hbl2 : (bg E str most k).length ≤ 1048576 := Nat.le_trans hbl (by
        have : k * E.length ≤ 1024 * 1024 := Nat.mul_le_mul (by omega) hE
        omega)
      have HBL := hide hbl2
      clear hbl hbl2
      go_wp2
      go_loopw [7, 19] (fun s7 s19 wx => ∃ j : Nat, s19 = .int .i64 j ∧ j ≤ E.length ∧ w.heap.size ≤ wx.heap.size ∧ Hid (∃ out, BgSt w wx s7 out ∧ bgIn (str.take k) most out (E.drop j) = bg E str most (k + 1) ∧ out.length ≤ 1048576 + j)) (fun _ s19 _ => E.length - (intOf s19).toNat)
      case atStart => exact ⟨0, rfl, Nat.zero_le _, hsz, (⟨_, HI.out, rfl, HBL.out⟩ : ∃ out, BgSt w wr _ out ∧ bgIn (str.take k) most out (E.drop 0) = bg E str most (k + 1) ∧ out.length ≤ 1048576 + 0)⟩
      case round =>
        obtain ⟨j, rfl, hj, hsx, HJ⟩ := hrel
        obtain ⟨out, hst, heq, hol⟩ := HJ.out
        by_cases hjl : j < E.length
        · obtain ⟨p, hp⟩ : ∃ p, E[j]? = some p := ⟨_, List.getElem?_eq_getElem hjl⟩
          have hdr : E.drop j = p :: E.drop (j + 1) := by
            obtain ⟨h1, h2⟩ := List.getElem?_eq_some_iff.1 hp
            rw [List.drop_eq_getElem_cons h1, h2]
          rw [hdr] at heq
          obtain ⟨g, hA, hg, k0, k1⟩ := ((HR.out.below hst.bel) j p hp)
          subst hA
          obtain ⟨A7, c7, rfl, hc7, hm7⟩ : ∃ A c, u7 = .slice A out.length c ∧ out.length ≤ c ∧ c ≤ maxLen := own_cap hst.own
          have HST := hide hst
          have HEQ := hide heq
          have hkl : (k : Int) ≤ (str.length : Int) := by omega
          clear hst heq hdr hp HI HJ hm7
          by_cases hq : p.1 = str.take k
          · have hd2 : (p.1 == str.take k) = true := by simpa using hq
            have HOW : Hid (∀ q : Nat, (((wr.alloc (.cells #[.string (S p.1), .int .i64 p.2] 37)).alloc (.cells #[.int .i64 p.2] 3)).drewN q).ownsRow w.heap.size 3 1 (.slice A7 out.length c7) out.length (ints out)) := fun q => (HST.out.own.alloc _).alloc _
            have HCW : Hid (∀ q : Nat, (((wr.alloc (.cells #[.string (S p.1), .int .i64 p.2] 37)).alloc (.cells #[.int .i64 p.2] 3)).drewN q).cell? ⟨wr.heap.size + 1, 0, none⟩ = some (.int .i64 p.2)) := fun q => by
              have := ((Blk.new_ (wr.alloc (.cells #[.string (S p.1), .int .i64 p.2] 37)) 3 #[.int .i64 p.2] (n := wr.heap.size + 1) (by simp)).drewN q).cell 0
              rw [this]; rfl
            have HSW : Hid (∀ q : Nat, w.heap.size ≤ (((wr.alloc (.cells #[.string (S p.1), .int .i64 p.2] 37)).alloc (.cells #[.int .i64 p.2] 3)).drewN q).heap.size) := fun q => by
              show w.heap.size ≤ ((wr.alloc (.cells #[.string (S p.1), .int .i64 p.2] 37)).alloc (.cells #[.int .i64 p.2] 3)).heap.size
              simp; omega
            have HBW : Hid (∀ (q : Nat) (w9 : World), (((wr.alloc (.cells #[.string (S p.1), .int .i64 p.2] 37)).alloc (.cells #[.int .i64 p.2] 3)).drewN q).grownBy w9 (Value.slice A7 out.length c7).ownBlock → Below w.heap.size w w9) := fun q w9 hg => by
              have h1 : Chg (fun i => w.heap.size ≤ i) w (((wr.alloc (.cells #[.string (S p.1), .int .i64 p.2] 37)).alloc (.cells #[.int .i64 p.2] 3)).drewN q) := (((Chg.ofBelow HST.out.bel _).alloc _).alloc _).drewN q
              exact (h1.trans (Chg.ofGrown (S := fun i => w.heap.size ≤ i) hg (fun g hg9 _ => (HST.out.own.lt g hg9).1)) (fun _ _ h => h)).below (Nat.le_refl _) (fun _ h => h)
            by_cases hmost : most ≤ 0
            · have hd3 : decide (most ≤ 0) = true := decide_eq_true hmost
              have hz := HEQ.out
              have hz2 : bgIn (str.take k) most (out ++ [p.2]) (E.drop (j + 1)) = bg E str most (k + 1) := by
                rw [← hz]; show _ = bgIn _ _ (if _ then _ else _) _; rw [if_pos ⟨hq, Or.inl hmost⟩]
              have HZ2 := hide hz2
              clear hz hz2 hq hmost
              go_wp2
              go_quiet (fail)
              go_wp2_with
                (at_builtin
                 go_must (refine wpList_append1 rfl _ _ 24 rfl w.heap.size 3 i0 (.int .i64 0) 8 Tryd.underlying24 hi3 HZ.out.1 HZ.out.2.1 HZ.out.2.2 rfl (.slice A7 out.length c7) out.length (ints out) rfl (HOW.out _) ⟨wr.heap.size + 1, 0, none⟩ 1 (.int .i64 p.2) rfl (HCW.out _) rfl (by unfold maxLen; omega) (by omega) (HSW.out _) ?_)
                 intro g9 c9 w9 ho9 _ hg9 hat9 hlt9
                 have HO9 := hide ho9
                 have HG9 := hide hg9
                 clear ho9 hg9 hat9)
              go_roundw
              case measure => simp [intOf]; omega
              case rel =>
                have hb9 : Below w.heap.size w w9 := HBW.out _ w9 HG9.out
                refine ⟨j + 1, by go_num, by omega, hb9.size, ?_⟩
                exact (⟨out ++ [p.2], ⟨by simpa using HO9.out, hb9⟩, HZ2.out, by simp; omega⟩ : ∃ out, BgSt w _ _ out ∧ bgIn (str.take k) most out (E.drop (j + 1)) = bg E str most (k + 1) ∧ out.length ≤ 1048576 + (j + 1))
            · have hd3 : decide (most ≤ 0) = false := decide_eq_false hmost
              by_cases hol2 : (out.length : Int) < most
              · have hd4 : decide ((out.length : Int) < most) = true := decide_eq_true hol2
                have hz := HEQ.out
                have hz2 : bgIn (str.take k) most (out ++ [p.2]) (E.drop (j + 1)) = bg E str most (k + 1) := by
                  rw [← hz]; show _ = bgIn _ _ (if _ then _ else _) _; rw [if_pos ⟨hq, Or.inr hol2⟩]
                have HZ2 := hide hz2
                clear hz hz2 hq hmost hol2
                go_wp2
                go_quiet (fail)
                go_wp2_with
                  (at_builtin
                   go_must (refine wpList_append1 rfl _ _ 24 rfl w.heap.size 3 i0 (.int .i64 0) 8 Tryd.underlying24 hi3 HZ.out.1 HZ.out.2.1 HZ.out.2.2 rfl (.slice A7 out.length c7) out.length (ints out) rfl (HOW.out _) ⟨wr.heap.size + 1, 0, none⟩ 1 (.int .i64 p.2) rfl (HCW.out _) rfl (by unfold maxLen; omega) (by omega) (HSW.out _) ?_)
                   intro g9 c9 w9 ho9 _ hg9 hat9 hlt9
                   have HO9 := hide ho9
                   have HG9 := hide hg9
                   clear ho9 hg9 hat9)
                go_roundw
                case measure => simp [intOf]; omega
                case rel =>
                  have hb9 : Below w.heap.size w w9 := HBW.out _ w9 HG9.out
                  refine ⟨j + 1, by go_num, by omega, hb9.size, ?_⟩
                  exact (⟨out ++ [p.2], ⟨by simpa using HO9.out, hb9⟩, HZ2.out, by simp; omega⟩ : ∃ out, BgSt w _ _ out ∧ bgIn (str.take k) most out (E.drop (j + 1)) = bg E str most (k + 1) ∧ out.length ≤ 1048576 + (j + 1))
              · have hd4 : decide ((out.length : Int) < most) = false := decide_eq_false hol2
                have hz := HEQ.out
                have hz2 : bgIn (str.take k) most out (E.drop (j + 1)) = bg E str most (k + 1) := by
                  rw [← hz]; show _ = bgIn _ _ (if _ then _ else _) _; rw [if_neg (fun h => h.2.elim hmost hol2)]
                have HZ2 := hide hz2
                clear hz hz2 hq hmost hol2
                go_wp2
                go_quiet (fail)
                go_wp2
                go_roundw
                case measure => simp [intOf]; omega
                case rel =>
                  refine ⟨j + 1, by go_num, by omega, by simp; omega, ?_⟩
                  have hb9 := HST.out.bel.alloc hsx (.cells #[.string (S p.1), .int .i64 p.2] 37)
                  show ∃ out, BgSt w _ _ out ∧ bgIn (str.take k) most out (E.drop (j + 1)) = bg E str most (k + 1) ∧ out.length ≤ 1048576 + (j + 1)
                  exact ⟨out, ⟨HST.out.own.alloc _, ⟨hb9.os, hb9.tape, hb9.output, hb9.size, hb9.block⟩⟩, HZ2.out, by omega⟩
          · have hd2 : (p.1 == str.take k) = false := by simpa using hq
            have hz := HEQ.out
            have hz2 : bgIn (str.take k) most out (E.drop (j + 1)) = bg E str most (k + 1) := by
              rw [← hz]; show _ = bgIn _ _ (if _ then _ else _) _; rw [if_neg (fun h => hq h.1)]
            have HZ2 := hide hz2
            clear hz hz2 hq
            go_wp2
            go_quiet (fail)
            go_wp2
            go_roundw
            case measure => simp [intOf]; omega
            case rel =>
              refine ⟨j + 1, by go_num, by omega, by simp; omega, ?_⟩
              have hb9 := HST.out.bel.alloc hsx (.cells #[.string (S p.1), .int .i64 p.2] 37)
              show ∃ out, BgSt w _ _ out ∧ bgIn (str.take k) most out (E.drop (j + 1)) = bg E str most (k + 1) ∧ out.length ≤ 1048576 + (j + 1)
              exact ⟨out, ⟨HST.out.own.alloc _, ⟨hb9.os, hb9.tape, hb9.output, hb9.size, hb9.block⟩⟩, HZ2.out, by omega⟩
        · have : j = E.length := by omega
          rw [this, List.drop_length] at heq
          have HST := hide hst
          have HEQ := hide heq
          clear hst heq this HJ HI
          go_wp2
          go_roundw
          case measure => simp [intOf]; omega
          case rel => exact ⟨k + 1, by go_num, by omega, hsx, (HEQ.out ▸ HST.out : BgSt w wr _ (bg E str most (k + 1)))⟩
    · have hd1 : decide ((k : Int) < (str.length : Int) + 1) = false := decide_eq_false (by omega)
      have hk2 : k = str.length + 1 := by omega
      subst hk2
      go_wp2
      go_ret
      exact ⟨_, rfl, HI.out.own, HI.out.bel⟩
end Go.Proofs.YtjekaagjgamfkaaDoor
