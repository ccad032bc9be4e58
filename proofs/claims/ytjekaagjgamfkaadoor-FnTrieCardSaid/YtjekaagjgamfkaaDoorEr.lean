/- The walk of equalReversed, at a text of ASCII. Under sizes alone. -/
import Derived.Test.YtjekaagjgamfkaaDoorTm
import Derived.Deep.QuietTactic
import Derived.BigQuiet
import Derived.Lib.Walk
import Derived.Lib.OthersKept
import Derived.Deep.LoopGhost
namespace Go.Proofs.YtjekaagjgamfkaaDoor
open Go.RowKit T
attribute [local go_sem] S_size S_toList E_toList

theorem get_S {l : T.Bs} {pos : Nat} {c : UInt8} (h : l[pos]? = some c) (h2 : pos < (S l).size) : (S l)[pos]'h2 = c := by
  have h3 := (List.getElem?_eq_some_iff.1 h).2
  show (l.toArray)[pos]'(by simpa [S_size] using h2) = c
  simpa using h3

def ErOut (t l : T.Bs) (w : World) (e : Ending) (w' : World) : Prop := e = .returned (.bool (l == t.reverse)) ∧ Below w.heap.size w w'

set_option linter.unusedSimpArgs false in
set_option linter.unusedVariables false in
set_option maxHeartbeats 1000000 in
theorem eqrev_any (t l : T.Bs) (w : World) (hlen : t.length = l.length) (hasc : ∀ c ∈ l, c.toNat < 128) (hl : l.length ≤ 1099511627776) :
    Calls Tryd.prog 28 #[.string (S t), .string (S l)] w (ErOut t l w) := by
  have HL := hide hlen
  have htl : t.length ≤ 1099511627776 := by omega
  have hle1 : l.length ≤ t.length := by omega
  have HA := hide hasc
  clear hlen hasc
  go_enter Tryd.func28, Tryd.ntmps28
  go_wp2
  go_loopg [] (l.length + 1) (fun m wr => ∃ pos : Nat, pos ≤ l.length ∧ l.length - pos < m ∧ Hid (wr.heap[w.heap.size]? = some (.stringIter (S l) pos) ∧ Below w.heap.size w wr ∧ l.take pos = t.reverse.take pos))
  case atStart =>
    refine ⟨0, Nat.zero_le _, by omega, ?_⟩
    exact (⟨World.iter_heap w (S l) 0, (Below.refl _ w).alloc (Nat.le_refl _) _, rfl⟩ : _ ∧ _ ∧ _)
  case round =>
    obtain ⟨pos, hp, hm, HI⟩ := hrel
    by_cases hlt : pos < l.length
    · obtain ⟨c, hc⟩ : ∃ c, l[pos]? = some c := ⟨_, List.getElem?_eq_getElem hlt⟩
      obtain ⟨y, hy⟩ : ∃ y, t[t.length - 1 - pos]? = some y := ⟨_, List.getElem?_eq_getElem (by omega)⟩
      have hca := HA.out c (List.mem_of_getElem? hc)
      have hps : pos < (S l).size := by rw [S_size]; exact hlt
      have hnx : ∀ ty, (Instr.next (.pointer (some ⟨w.heap.size, 0, none⟩)) true ty).run Tryd.prog wr = .ok (.tuple #[.bool true, .int .i64 pos, .int .i32 c.toNat]) (wr.iterAt w.heap.size (S l) (pos + 1)) := fun ty => by
        have := Lib.run_next_ascii_at (P := Tryd.prog) wr w.heap.size (S l) pos ty HI.out.1 hps (by rw [get_S hc]; exact hca)
        rw [get_S hc] at this
        exact this
      have hix := index_S hc
      have hiy := index_S hy
      have ec : ((t.length - 1 - pos : Nat) : Int) = (t.length : Int) - 1 - (pos : Int) := by omega
      rw [ec] at hiy
      have HC := hide hc
      have HY := hide hy
      have h64 : IntKind.i64.wrap ((t.length : Int) - 1) = (t.length : Int) - 1 := by rw [IntKind.wrap_i64]; omega
      have h65 : IntKind.i64.wrap ((t.length : Int) - 1 - (pos : Int)) = (t.length : Int) - 1 - (pos : Int) := by rw [IntKind.wrap_i64]; omega
      clear hc hy ec hps hca
      by_cases hxy : c = y
      · have hd2 : ((c.toNat : Int) != (y.toNat : Int)) = false := by simp [hxy]
        have HXY := hide hxy
        clear hxy
        go_wp2
        go_quiet (fail)
        go_wp2
        go_roundg (l.length - pos)
        case measure => omega
        refine ⟨pos + 1, by omega, by omega, ?_⟩
        have hb := Lib.below_iterAt HI.out.2.1 (k := w.heap.size) (Nat.le_refl _) (S l) (pos + 1)
        exact (⟨Lib.iterAt_heap wr w.heap.size (S l) pos (pos + 1) HI.out.1, ⟨hb.os, hb.tape, hb.output, hb.size, hb.block⟩, by
          rw [take_succ HC.out, HI.out.2.2, HXY.out]
          refine (take_succ ?_).symm
          rw [List.getElem?_reverse (by omega)]
          exact HY.out⟩ : _ ∧ Below w.heap.size w ((wr.iterAt w.heap.size (S l) (pos + 1)).drewN nq) ∧ l.take (pos + 1) = t.reverse.take (pos + 1))
      · have hd2 : ((c.toNat : Int) != (y.toNat : Int)) = true := bne_iff_ne.2 (fun h => hxy (UInt8.toNat_inj.1 (by exact_mod_cast h)))
        have HXY := hide hxy
        clear hxy
        go_wp2
        go_quiet (fail)
        go_wp2
        go_ret
        have hb := Lib.below_iterAt HI.out.2.1 (k := w.heap.size) (Nat.le_refl _) (S l) (pos + 1)
        refine ⟨?_, ⟨hb.os, hb.tape, hb.output, hb.size, hb.block⟩⟩
        have : (l == t.reverse) = false := by
          rw [beq_eq_false_iff_ne]
          intro e
          have h1 := HC.out
          have h2 := HY.out
          rw [e, List.getElem?_reverse (by omega), h2] at h1
          exact HXY.out (Option.some.inj h1).symm
        rw [this]
        rfl
    · have hps : ¬ pos < (S l).size := by rw [S_size]; exact hlt
      have hnx : ∀ ty, (Instr.next (.pointer (some ⟨w.heap.size, 0, none⟩)) true ty).run Tryd.prog wr = .ok (.tuple #[.bool false]) wr := fun ty => Lib.run_next_end_at (P := Tryd.prog) wr w.heap.size (S l) pos ty HI.out.1 hps
      have hz := HI.out.2.2
      rw [List.take_of_length_le (by omega), List.take_of_length_le (by rw [List.length_reverse]; have := HL.out; omega)] at hz
      have HZ := hide hz
      clear hz hps
      go_wp2
      go_ret
      refine ⟨?_, HI.out.2.1⟩
      rw [HZ.out]
      simp
end Go.Proofs.YtjekaagjgamfkaaDoor
