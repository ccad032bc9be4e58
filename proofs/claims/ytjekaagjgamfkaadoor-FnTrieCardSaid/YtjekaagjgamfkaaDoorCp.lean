/- The walk of commonPrefixLen. Under sizes alone. -/
import Derived.Test.YtjekaagjgamfkaaDoorTm
import Derived.Deep.QuietTactic
import Derived.BigQuiet
import Derived.Lib.Walk
namespace Go.Proofs.YtjekaagjgamfkaaDoor
open Go.RowKit T
attribute [local go_sem] S_size S_toList E_toList

/-- c letters are common, and no more. -/
structure Cp (a b : T.Bs) (c : Nat) : Prop where
  la : c ≤ a.length
  lb : c ≤ b.length
  eq : a.take c = b.take c
  ne : c < a.length → c < b.length → a[c]? ≠ b[c]?

def CpOut (a b : T.Bs) (w : World) (r : Ending) (w' : World) : Prop := ∃ c : Nat, r = .returned (.int .i64 (c : Int)) ∧ Cp a b c ∧ Below w.heap.size w w'

set_option linter.unusedSimpArgs false in
set_option maxHeartbeats 1000000 in
theorem cp_any (a b : T.Bs) (w : World) (_ha : a.length ≤ 1099511627776) (_hb : b.length ≤ 1099511627776) :
    Calls Tryd.prog 27 #[.string (S a), .string (S b)] w (CpOut a b w) := by
  obtain ⟨n, hn⟩ : ∃ n : Nat, min (a.length : Int) (b.length : Int) = (n : Int) := ⟨min a.length b.length, by omega⟩
  have hna : n ≤ a.length := by omega
  have hnb : n ≤ b.length := by omega
  have HN : Hid (n = a.length ∨ n = b.length) := by
    show n = a.length ∨ n = b.length
    omega
  go_enter Tryd.func27, Tryd.ntmps27
  go_wp2
  clear hn
  go_loopw [6] (fun s6 wr => ∃ i : Nat, s6 = .int .i64 i ∧ i ≤ n ∧ Hid (a.take i = b.take i ∧ Below w.heap.size w wr)) (fun s6 _ => n - (intOf s6).toNat)
  case atStart => exact ⟨0, rfl, Nat.zero_le _, (⟨rfl, Below.refl _ _⟩ : _ ∧ _)⟩
  case round =>
    obtain ⟨i, rfl, h1, HI⟩ := hrel
    by_cases hlt : i < n
    · obtain ⟨x, hx⟩ : ∃ x, a[i]? = some x := ⟨_, List.getElem?_eq_getElem (by omega)⟩
      obtain ⟨y, hy⟩ : ∃ y, b[i]? = some y := ⟨_, List.getElem?_eq_getElem (by omega)⟩
      have hix := index_S hx
      have hiy := index_S hy
      have HX := hide hx
      have HY := hide hy
      have hd : decide (i < n) = true := decide_eq_true hlt
      clear hx hy
      by_cases hxy : x = y
      · have hd2 : ((x.toNat : Int) == (y.toNat : Int)) = true := by simp [hxy]
        have HXY := hide hxy
        clear hxy
        go_wp2
        go_quiet (fail)
        go_wp2
        go_roundw
        case measure => simp [intOf]; omega
        case rel =>
          refine ⟨i + 1, by go_num, by omega, ?_⟩
          have hb := HI.out.2
          refine (show _ ∧ Below w.heap.size w _ from ⟨?_, ⟨hb.os, hb.tape, hb.output, hb.size, hb.block⟩⟩)
          rw [take_succ HX.out, take_succ HY.out, HI.out.1, HXY.out]
      · have hd2 : ((x.toNat : Int) == (y.toNat : Int)) = false := beq_eq_false_iff_ne.2 (fun h => hxy (UInt8.toNat_inj.1 (by exact_mod_cast h)))
        have HXY := hide hxy
        clear hxy
        go_wp2
        go_quiet (fail)
        go_wp2
        go_ret
        have hb := HI.out.2
        refine ⟨i, rfl, ⟨by omega, by omega, HI.out.1, fun _ _ e => HXY.out ?_⟩, ⟨hb.os, hb.tape, hb.output, hb.size, hb.block⟩⟩
        rw [HX.out, HY.out] at e
        exact Option.some.inj e
    · have hd : decide (i < n) = false := decide_eq_false hlt
      go_wp2
      go_quiet (fail)
      go_wp2
      go_ret
      have hb := HI.out.2
      exact ⟨i, rfl, ⟨by omega, by omega, HI.out.1, fun h2 h3 => by have := HN.out; omega⟩, ⟨hb.os, hb.tape, hb.output, hb.size, hb.block⟩⟩
end Go.Proofs.YtjekaagjgamfkaaDoor
