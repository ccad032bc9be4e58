/- The walks of laws.ints and laws.values. Under sizes alone. -/
import Derived.Test.YtjekaagjgamfkaaDoorPu
import Derived.Test.YtjekaagjgamfkaaDoorLs
import Derived.Deep.QuietTactic
import Derived.BigQuiet
import Derived.Lib.Walk
namespace Go.Proofs.YtjekaagjgamfkaaDoor
open Go.RowKit T
attribute [local go_sem] S_size S_toList E_toList S_extract

abbrev IntsIn (w : World) (A : Option Addr) (L : List Int) : Prop := Reads w (fun _ => True) 1 A L.length (ints L)
theorem IntsIn.cell {w : World} {A : Option Addr} {i : Nat} {L : List Int} {x : Int} (h : IntsIn w A L) (hk : L[i]? = some x) : ∃ ad, A = some ad ∧ ad.block < w.heap.size ∧ w.cell? (ad.add i) = some (.int .i64 x) := by
  have hl := (List.getElem?_eq_some_iff.1 hk).1
  obtain ⟨ad, e, _, h2, h3⟩ := h.2 (by omega)
  exact ⟨ad, e, h2, h3 i _ (by simp [ints, hk])⟩

set_option linter.unusedSimpArgs false in
set_option linter.unusedVariables false in
set_option maxHeartbeats 1000000 in
theorem eqi_any (A B : Option Addr) (c d : Nat) (L K : List Int) (w : World) (hr : IntsIn w A L) (hk : IntsIn w B K) (hm : L.length ≤ 1099511627776) :
    Calls Tryd.prog 11 #[.slice A L.length c, .slice B K.length d] w fun e w' => e = .returned (.bool (decide (L = K))) ∧ Below w.heap.size w w' := by
  have HR := hide hr
  have HK := hide hk
  clear hr hk
  go_enter Tryd.func11, Tryd.ntmps11
  by_cases hlen : (L.length : Int) = (K.length : Int)
  · go_wp2
    go_loopw [13] (fun s13 wr => ∃ i : Nat, s13 = .int .i64 i ∧ i ≤ L.length ∧ Hid (Below w.heap.size w wr ∧ L.take i = K.take i)) (fun s13 _ => L.length - (intOf s13).toNat)
    case atStart => exact ⟨0, rfl, Nat.zero_le _, (⟨Below.refl _ _, rfl⟩ : Below w.heap.size w w ∧ L.take 0 = K.take 0)⟩
    case round =>
      obtain ⟨i, rfl, hi, HI⟩ := hrel
      by_cases hlt : i < L.length
      · obtain ⟨x, hx⟩ : ∃ x, L[i]? = some x := ⟨_, List.getElem?_eq_getElem hlt⟩
        obtain ⟨y, hy⟩ : ∃ y, K[i]? = some y := ⟨_, List.getElem?_eq_getElem (by omega)⟩
        obtain ⟨a1, rfl, _, hc1⟩ := IntsIn.cell (HR.out.below HI.out.1) hx
        obtain ⟨a2, rfl, _, hc2⟩ := IntsIn.cell (HK.out.below HI.out.1) hy
        have HX := hide hx
        have HY := hide hy
        clear hx hy
        by_cases hxy : x = y
        · subst hxy
          go_wp2
          go_quiet (fail)
          go_wp2
          have h2 : Below w.heap.size w (wr.drewN nq) ∧ L.take (i + 1) = K.take (i + 1) := ⟨((Chg.ofBelow HI.out.1 (fun _ => False)).drewN nq).toBelow, by rw [take_succ HX.out, take_succ HY.out, HI.out.2]⟩
          exact ⟨⟨i + 1, by go_num, by omega, h2⟩, by simp [intOf]; omega⟩
        · go_wp2
          go_quiet (fail)
          go_wp2
          go_ret
          exact ⟨by rw [decide_eq_false (p := L = K) (fun e => hxy (by have h1 := HX.out; rw [e, HY.out] at h1; injection h1 with h1; exact h1.symm))]; rfl, ((Chg.ofBelow HI.out.1 (fun _ => False)).drewN nq).toBelow⟩
      · have heq : L = K := by
          have h1 := HI.out.2
          rw [List.take_of_length_le (by omega), List.take_of_length_le (by omega)] at h1
          exact h1
        go_wp2
        go_ret
        exact ⟨by rw [decide_eq_true heq]; rfl, HI.out.1⟩
  · go_wp2
    go_ret
    exact ⟨by rw [decide_eq_false (p := L = K) (fun e => hlen (by rw [e]))]; rfl, Below.refl _ _⟩

set_option linter.unusedSimpArgs false in
set_option linter.unusedVariables false in
set_option maxHeartbeats 4000000 in
theorem values_law (A : Option Addr) (c : Nat) (B : Option Addr) (d : Nat) (L : List Int) (E : List (Bs × Int)) (most : Int) (w : World) (hr : IntsIn w A L) (hE : RdP w B E) (hL : L = capL most (E.map (·.2))) (hnd : (E.map (·.2)).Nodup) (hm : E.length ≤ 1099511627776) (hc : L.length ≤ c) :
    Calls Tryd.prog 12 #[.slice A L.length c, .slice B E.length d, .int .i64 most] w fun e w' => e = .returned (.bool true) ∧ Below w.heap.size w w' := by
  have hll : L.length ≤ E.length := by
    rw [hL]; unfold capL; split <;> simp; omega
  have hlen : ((L.length : Int) = if most ≤ 0 then (E.length : Int) else min (E.length : Int) most) := by
    rw [hL]; unfold capL; split <;> simp <;> omega
  have hin : ∀ x ∈ L, ∃ p ∈ E, p.2 = x := fun x hx => by
    have h1 : x ∈ E.map (·.2) := by
      rw [hL] at hx; unfold capL at hx
      split at hx
      · exact hx
      · exact List.mem_of_mem_take hx
    obtain ⟨p, hp, e⟩ := List.mem_map.1 h1
    exact ⟨p, hp, e⟩
  have hLn : L.Nodup := by
    rw [hL]; unfold capL
    split
    · exact hnd
    · exact hnd.sublist (List.take_sublist _ _)
  have HR := hide hr
  have HE := hide hE
  have HIN := hide hin
  have HLN := hide hLn
  have HLEN := hide hlen
  clear hr hE hin hLn hL hnd hlen
  go_enter Tryd.func12, Tryd.ntmps12
  by_cases hmost : (0 : Int) < most
  · go_wp2
    go_loopw [24] (fun s24 wr => ∃ i : Nat, s24 = .int .i64 i ∧ i ≤ L.length ∧ Hid (Below w.heap.size w wr)) (fun s24 _ => L.length - (intOf s24).toNat)
    case atStart => exact ⟨0, rfl, Nat.zero_le _, (Below.refl _ _ : Below w.heap.size w w)⟩
    case round =>
      obtain ⟨i, rfl, hi, HI⟩ := hrel
      by_cases hlt : i < L.length
      · obtain ⟨x, hx⟩ : ∃ x, L[i]? = some x := ⟨_, List.getElem?_eq_getElem hlt⟩
        obtain ⟨a1, rfl, _, hc1⟩ := IntsIn.cell (HR.out.below HI.out) hx
        have HX := hide hx
        clear hx
        go_wp2
        go_loopw [10, 31] (fun s10 s31 wx => ∃ j : Nat, s31 = .int .i64 j ∧ j ≤ E.length ∧ s10 = .bool ((E.take j).any (fun p => p.2 == x)) ∧ Hid (Below w.heap.size w wx)) (fun _ s31 _ => E.length - (intOf s31).toNat)
        case atStart => exact ⟨0, rfl, Nat.zero_le _, rfl, HI⟩
        case round =>
          obtain ⟨j, rfl, hj, rfl, HJ⟩ := hrel
          by_cases hjl : j < E.length
          · obtain ⟨p, hp⟩ : ∃ p, E[j]? = some p := ⟨_, List.getElem?_eq_getElem hjl⟩
            obtain ⟨g, hA, hg, k0, k1⟩ := (HE.out.below HJ.out) j p hp
            subst hA
            have HT : Hid ((E.take (j + 1)).any (fun p => p.2 == x) = ((E.take j).any (fun p => p.2 == x) || (p.2 == x))) := by
              have h1 : (E.take (j + 1)).any (fun p => p.2 == x) = ((E.take j).any (fun p => p.2 == x) || (p.2 == x)) := by rw [take_succ hp]; simp
              exact h1
            have HB9 : Hid (Below w.heap.size w (wr.alloc (.cells #[.string (S p.1), .int .i64 p.2] 37))) := ((Chg.ofBelow HJ.out (fun _ => False)).alloc _).toBelow
            clear hp
            cases hb : (E.take j).any (fun p => p.2 == x) with
            | true =>
              rw [hb] at HT
              clear hb
              go_wp2
              exact ⟨⟨j + 1, by go_num, by omega, by rw [HT.out]; rfl, HB9⟩, by simp [intOf]; omega⟩
            | false =>
              rw [hb] at HT
              clear hb
              go_wp2
              exact ⟨⟨j + 1, by go_num, by omega, by rw [HT.out]; rfl, HB9⟩, by simp [intOf]; omega⟩
          · have hin : (E.take j).any (fun p => p.2 == x) = true := by
              rw [List.take_of_length_le (by omega)]
              obtain ⟨p, hp, e⟩ := HIN.out x (List.mem_of_getElem? HX.out)
              exact List.any_eq_true.2 ⟨p, hp, by simp [e]⟩
            rw [hin]
            clear hin
            go_wp2
            go_loopw [10, 47] (fun s10 s47 wx => ∃ k : Nat, s47 = .int .i64 k ∧ k ≤ i ∧ s10 = .bool true ∧ Hid (Below w.heap.size w wx)) (fun _ s47 _ => i - (intOf s47).toNat)
            case atStart => exact ⟨0, rfl, Nat.zero_le _, rfl, HJ⟩
            case round =>
              obtain ⟨k, rfl, hkl, rfl, HK⟩ := hrel
              by_cases hki : k < i
              · obtain ⟨y, hy⟩ : ∃ y, L[k]? = some y := ⟨_, List.getElem?_eq_getElem (by omega)⟩
                obtain ⟨a2, ha2, _, hc2⟩ := IntsIn.cell (HR.out.below HK.out) hy
                injection ha2 with ha2
                subst ha2
                have hne : (y != x) = true := by
                  have hx := HX.out
                  obtain ⟨h1, h2⟩ := List.getElem?_eq_some_iff.1 hx
                  obtain ⟨h3, h4⟩ := List.getElem?_eq_some_iff.1 hy
                  have := (List.nodup_iff_pairwise_ne.1 HLN.out)
                  have := List.pairwise_iff_getElem.1 this k i h3 h1 hki
                  rw [h2, h4] at this
                  simpa using this
                clear hy
                go_wp2
                exact ⟨⟨k + 1, by go_num, by omega, rfl, HK⟩, by simp [intOf]; omega⟩
              · go_wp2
                exact ⟨⟨i + 1, by go_num, by omega, HK⟩, by simp [intOf]; omega⟩
      · go_wp2
        have hle := HLEN.out
        rw [if_neg (by omega)] at hle
        go_wp2
        go_ret
        exact ⟨by show Ending.returned (Value.bool ((L.length : Int) == min (E.length : Int) most)) = _; rw [hle]; simp, HI.out⟩
  · go_wp2
    go_loopw [24] (fun s24 wr => ∃ i : Nat, s24 = .int .i64 i ∧ i ≤ L.length ∧ Hid (Below w.heap.size w wr)) (fun s24 _ => L.length - (intOf s24).toNat)
    case atStart => exact ⟨0, rfl, Nat.zero_le _, (Below.refl _ _ : Below w.heap.size w w)⟩
    case round =>
      obtain ⟨i, rfl, hi, HI⟩ := hrel
      by_cases hlt : i < L.length
      · obtain ⟨x, hx⟩ : ∃ x, L[i]? = some x := ⟨_, List.getElem?_eq_getElem hlt⟩
        obtain ⟨a1, rfl, _, hc1⟩ := IntsIn.cell (HR.out.below HI.out) hx
        have HX := hide hx
        clear hx
        go_wp2
        go_loopw [10, 31] (fun s10 s31 wx => ∃ j : Nat, s31 = .int .i64 j ∧ j ≤ E.length ∧ s10 = .bool ((E.take j).any (fun p => p.2 == x)) ∧ Hid (Below w.heap.size w wx)) (fun _ s31 _ => E.length - (intOf s31).toNat)
        case atStart => exact ⟨0, rfl, Nat.zero_le _, rfl, HI⟩
        case round =>
          obtain ⟨j, rfl, hj, rfl, HJ⟩ := hrel
          by_cases hjl : j < E.length
          · obtain ⟨p, hp⟩ : ∃ p, E[j]? = some p := ⟨_, List.getElem?_eq_getElem hjl⟩
            obtain ⟨g, hA, hg, k0, k1⟩ := (HE.out.below HJ.out) j p hp
            subst hA
            have HT : Hid ((E.take (j + 1)).any (fun p => p.2 == x) = ((E.take j).any (fun p => p.2 == x) || (p.2 == x))) := by
              have h1 : (E.take (j + 1)).any (fun p => p.2 == x) = ((E.take j).any (fun p => p.2 == x) || (p.2 == x)) := by rw [take_succ hp]; simp
              exact h1
            have HB9 : Hid (Below w.heap.size w (wr.alloc (.cells #[.string (S p.1), .int .i64 p.2] 37))) := ((Chg.ofBelow HJ.out (fun _ => False)).alloc _).toBelow
            clear hp
            cases hb : (E.take j).any (fun p => p.2 == x) with
            | true =>
              rw [hb] at HT
              clear hb
              go_wp2
              exact ⟨⟨j + 1, by go_num, by omega, by rw [HT.out]; rfl, HB9⟩, by simp [intOf]; omega⟩
            | false =>
              rw [hb] at HT
              clear hb
              go_wp2
              exact ⟨⟨j + 1, by go_num, by omega, by rw [HT.out]; rfl, HB9⟩, by simp [intOf]; omega⟩
          · have hin : (E.take j).any (fun p => p.2 == x) = true := by
              rw [List.take_of_length_le (by omega)]
              obtain ⟨p, hp, e⟩ := HIN.out x (List.mem_of_getElem? HX.out)
              exact List.any_eq_true.2 ⟨p, hp, by simp [e]⟩
            rw [hin]
            clear hin
            go_wp2
            go_loopw [10, 47] (fun s10 s47 wx => ∃ k : Nat, s47 = .int .i64 k ∧ k ≤ i ∧ s10 = .bool true ∧ Hid (Below w.heap.size w wx)) (fun _ s47 _ => i - (intOf s47).toNat)
            case atStart => exact ⟨0, rfl, Nat.zero_le _, rfl, HJ⟩
            case round =>
              obtain ⟨k, rfl, hkl, rfl, HK⟩ := hrel
              by_cases hki : k < i
              · obtain ⟨y, hy⟩ : ∃ y, L[k]? = some y := ⟨_, List.getElem?_eq_getElem (by omega)⟩
                obtain ⟨a2, ha2, _, hc2⟩ := IntsIn.cell (HR.out.below HK.out) hy
                injection ha2 with ha2
                subst ha2
                have hne : (y != x) = true := by
                  have hx := HX.out
                  obtain ⟨h1, h2⟩ := List.getElem?_eq_some_iff.1 hx
                  obtain ⟨h3, h4⟩ := List.getElem?_eq_some_iff.1 hy
                  have := (List.nodup_iff_pairwise_ne.1 HLN.out)
                  have := List.pairwise_iff_getElem.1 this k i h3 h1 hki
                  rw [h2, h4] at this
                  simpa using this
                clear hy
                go_wp2
                exact ⟨⟨k + 1, by go_num, by omega, rfl, HK⟩, by simp [intOf]; omega⟩
              · go_wp2
                exact ⟨⟨i + 1, by go_num, by omega, HK⟩, by simp [intOf]; omega⟩
      · go_wp2
        have hle := HLEN.out
        rw [if_pos (by omega)] at hle
        go_wp2
        go_ret
        exact ⟨by show Ending.returned (Value.bool ((L.length : Int) == (E.length : Int))) = _; rw [hle]; simp, HI.out⟩
end Go.Proofs.YtjekaagjgamfkaaDoor
