/- The walks of semver's cutDot, isAllDecimals, and of the conversions of versions. No condition but sizes. -/
import Derived.Test.YtaoeelhgfdknfaaDoorP2
namespace Go.Proofs.YtaoeelhgfdknfaaDoor
open Go.RowKit

attribute [local go_sem] S_size S_toList E_toList S_extract

theorem idx46 (l : Bs) (w : World) : Calls Tryd.prog 42 #[.string (S l), .int .u8 46] w fun e w' => e = .returned (.int .i64 (Lib.indexByte l 46)) ∧ w' = w :=
  Tryd.strings_IndexByte (S l) 46 w

set_option maxHeartbeats 1000000 in
set_option maxRecDepth 100000 in
theorem cutdot_any (l : Bs) (w : World) (hl : l.length ≤ 8589934592) : Calls Tryd.prog 30 #[.string (S l)] w fun e w' => e = .returned (.tuple #[.string (S (cut46 l).1), .string (S (cut46 l).2)]) ∧ ∃ q, w' = w.drewN q := by
  rcases cut_idx l with ⟨h1, h2, _⟩ | ⟨k, h1, hk, h2, _⟩
  · have H2 := hide h2
    have hi := idx46 l w
    rw [h1] at hi
    clear h1 h2
    go_enter Tryd.func30, Tryd.ntmps30
    go_wp2_with fail
    refine hi.mono ?_
    rintro e w9 ⟨rfl, rfl⟩
    go_wp2
    refine bodyPost_ret (v := .tuple #[.string (S l), .string ⟨#[]⟩]) ?_ rfl ?_
    · simp [results, Tryd.f30, go_sem]
    · rw [H2.out]; exact ⟨rfl, 0, rfl⟩
  · have H2 := hide h2
    have hi := idx46 l w
    rw [h1] at hi
    have hk2 : (k : Int) ≤ (l.length : Int) := by omega
    have hk3 : (k : Int) + 1 ≤ (l.length : Int) := by omega
    have hk0 : (0 : Int) ≤ (k : Int) := by omega
    have hk1 : (0 : Int) ≤ (k : Int) + 1 := by omega
    have hw1 : IntKind.i64.wrap ((k : Int) + 1) = (k : Int) + 1 := by rw [IntKind.wrap_i64]; omega
    clear h1 h2
    go_enter Tryd.func30, Tryd.ntmps30
    go_wp2_with fail
    refine hi.mono ?_
    rintro e w9 ⟨rfl, rfl⟩
    go_wp2
    go_quiet (fail)
    go_wp2
    refine bodyPost_ret (v := .tuple #[.string (S (l.take k)), .string (S (l.drop (k + 1)))]) ?_ rfl ?_
    · simp [results, Tryd.f30, go_sem]
    · rw [H2.out]; exact ⟨rfl, _, rfl⟩

def posOf (b : Nat) (w : World) : Nat := match w.heap[b]? with | some (.stringIter _ p) => p | _ => 0
theorem posOf_iter (w : World) (s : ByteArray) (p : Nat) : posOf w.heap.size (w.iter s p) = p := by unfold posOf; rw [World.iter_heap]

set_option maxHeartbeats 1000000 in
set_option maxRecDepth 100000 in
theorem alldec_any (l : Bs) (w : World) (hasc : ∀ c ∈ l, c.toNat < 128) : Calls Tryd.prog 31 #[.string (S l)] w fun e w' => e = .returned (.bool (digitsB l)) ∧ Below w.heap.size w w' := by
  have HASC := hide hasc
  have hbel : ∀ p, Below w.heap.size w (w.iter (S l) p) := fun p => (Below.refl _ _).alloc (Nat.le_refl _) _
  have HBEL := hide hbel
  clear hasc hbel
  go_enter Tryd.func31, Tryd.ntmps31
  go_wp2
  go_loopw [4] (fun _ wr => ∃ j : Nat, j ≤ l.length ∧ wr = w.iter (S l) j ∧ Hid ((l.take j).all isDig = true)) (fun _ wr => l.length + 1 - posOf w.heap.size wr)
  case atStart => exact ⟨0, Nat.zero_le _, rfl, rfl⟩
  case round =>
    obtain ⟨j, hj, rfl, HA⟩ := hrel
    by_cases hlt : j < l.length
    · obtain ⟨c, hc⟩ : ∃ c, l[j]? = some c := ⟨_, List.getElem?_eq_getElem hlt⟩
      have hcc := HASC.out c (mem_at hc)
      have hget : (S l)[j]'(by rw [S_size]; exact hlt) = c := by
        have h2 := (List.getElem?_eq_some_iff.1 hc).2
        show (l.toArray)[j]'(by simpa using hlt) = c
        simpa using h2
      have hnx : ∀ ty, (Instr.next (.pointer (some ⟨w.heap.size, 0, none⟩)) true ty).run Tryd.prog (w.iter (S l) j) = .ok (.tuple #[.bool true, .int .i64 j, .int .i32 (c.toNat : Int)]) (w.iter (S l) (j + 1)) := fun ty => by
        have := run_next_ascii (P := Tryd.prog) w (S l) j ty (by rw [S_size]; exact hlt) (by rw [hget]; exact hcc)
        rw [hget] at this
        exact this
      have HC := hide hc
      clear hc hget
      cases hd : isDig c with
      | true =>
        obtain ⟨h1, h2⟩ := isDig_iff.1 hd
        have HD := hide hd
        clear hd
        go_wp2
        go_roundw
        case measure => rw [posOf_iter, posOf_iter]; omega
        case rel =>
          refine ⟨j + 1, by omega, rfl, ?_⟩
          show _ = _
          rw [take_succ HC.out, List.all_append, HA.out]
          simp [HD.out]
      | false =>
        have hbad : digitsB l = false := by
          unfold digitsB
          have : l.all isDig = false := by
            rw [List.all_eq_false]
            exact ⟨c, mem_at HC.out, by simp [hd]⟩
          rw [this]; rfl
        have hno := isDig_no hd
        have HB := hide hbad
        clear hd hbad
        rcases hno with h1 | ⟨h1, h2⟩
        · go_wp2
          go_ret
          exact ⟨by rw [HB.out]; rfl, HBEL.out _⟩
        · go_wp2
          go_ret
          exact ⟨by rw [HB.out]; rfl, HBEL.out _⟩
    · have hnx : ∀ ty, (Instr.next (.pointer (some ⟨w.heap.size, 0, none⟩)) true ty).run Tryd.prog (w.iter (S l) j) = .ok (.tuple #[.bool false]) (w.iter (S l) j) := fun ty => run_next_end w (S l) j ty (by rw [S_size]; exact hlt)
      have hfin : (!l.isEmpty) = digitsB l := by
        unfold digitsB
        have h1 := HA.out
        rw [List.take_of_length_le (by omega)] at h1
        rw [h1]; rfl
      have HF := hide hfin
      clear hfin
      go_wp2
      go_ret
      refine ⟨?_, HBEL.out _⟩
      rw [← HF.out]; rfl

set_option maxHeartbeats 1000000 in
set_option maxRecDepth 100000 in
theorem version_any (v : Ver) (w : World) : Calls Tryd.prog 9 #[.agg v.cells] w fun e w' => e = .returned (.agg v.cells) ∧ Below w.heap.size w w' := by
  unfold Ver.cells
  go_enter Tryd.func9, Tryd.ntmps9
  go_wp2
  refine bodyPost_ret (v := .agg #[.int .i64 v.maj, .int .i64 v.min, .int .i64 v.pat, .string (S v.pre), .string (S v.met)]) ?_ rfl ?_
  · simp [results, Tryd.f9, go_sem]
  · exact ⟨rfl, ((Below.refl _ _).alloc (Nat.le_refl _) _).alloc (by simp) _⟩

set_option maxHeartbeats 1000000 in
set_option maxRecDepth 100000 in
theorem of_any (v : Ver) (w : World) : Calls Tryd.prog 19 #[.agg v.cells] w fun e w' => e = .returned (.agg v.cells) ∧ Below w.heap.size w w' := by
  unfold Ver.cells
  go_enter Tryd.func19, Tryd.ntmps19
  go_wp2
  refine bodyPost_ret (v := .agg #[.int .i64 v.maj, .int .i64 v.min, .int .i64 v.pat, .string (S v.pre), .string (S v.met)]) ?_ rfl ?_
  · simp [results, Tryd.f19, go_sem]
  · exact ⟨rfl, ((Below.refl _ _).alloc (Nat.le_refl _) _).alloc (by simp) _⟩

def fitsV (v : Ver) : Bool := decide (v.pre.length ≤ 2147483647) && decide (v.met.length ≤ 2147483647)
set_option maxHeartbeats 1000000 in
theorem fits1_any (v : Ver) (w : World) : Calls Tryd.prog 7 #[.agg v.cells] w fun e w' => e = .returned (.bool (fitsV v)) ∧ Below w.heap.size w w' := by
  have hb := (below_new w #[.int .i64 v.maj, .int .i64 v.min, .int .i64 v.pat, .string (S v.pre), .string (S v.met)] 23).1
  have HB := hide hb
  clear hb
  by_cases h1 : v.pre.length ≤ 2147483647
  · by_cases h2 : v.met.length ≤ 2147483647
    · have hr : fitsV v = true := by simp [fitsV, h1, h2]
      have HR := hide hr
      clear hr
      unfold Ver.cells
      go_enter Tryd.func7, Tryd.ntmps7
      go_wp2
      go_ret
      exact ⟨by rw [HR.out]; rfl, HB.out⟩
    · have hr : fitsV v = false := by simp [fitsV]; omega
      have HR := hide hr
      clear hr
      unfold Ver.cells
      go_enter Tryd.func7, Tryd.ntmps7
      go_wp2
      go_ret
      exact ⟨by rw [HR.out]; rfl, HB.out⟩
  · have hr : fitsV v = false := by simp [fitsV, h1]
    have HR := hide hr
    clear hr
    unfold Ver.cells
    go_enter Tryd.func7, Tryd.ntmps7
    go_wp2
    go_ret
    exact ⟨by rw [HR.out]; rfl, HB.out⟩
end Go.Proofs.YtaoeelhgfdknfaaDoor
