/- The walks of spec.at and of semver's zzIndex, zzCut, zzCount. No condition but sizes. -/
import Derived.Test.YtaoeelhgfdknfaaDoorP3
namespace Go.Proofs.YtaoeelhgfdknfaaDoor
open Go.RowKit

attribute [local go_sem] S_size S_toList E_toList S_extract

theorem take_no {c d : UInt8} {l : Bs} {j : Nat} (h : ∀ x ∈ l.take j, x ≠ c) (hd : l[j]? = some d) (hne : d ≠ c) : ∀ x ∈ l.take (j + 1), x ≠ c := by
  rw [take_succ hd]
  intro x hx
  rcases List.mem_append.1 hx with hx | hx
  · exact h x hx
  · rw [List.mem_singleton.1 hx]; exact hne

set_option maxHeartbeats 1000000 in
theorem at_any (c : UInt8) (z : Int) (hz : (c.toNat : Int) = z) (l : Bs) (w : World) (hl : l.length ≤ 8589934592) : Calls Tryd.prog 24 #[.string (S l), .int .u8 z] w fun e w' => e = .returned (.int .i64 (fst c l)) ∧ w' = w := by
  have HZ := hide hz
  clear hz
  go_enter Tryd.func24, Tryd.ntmps24
  go_wp2
  go_loopw [8] (fun i wr => ∃ j : Nat, j ≤ l.length ∧ i = .int .i64 j ∧ wr = w ∧ Hid (∀ x ∈ l.take j, x ≠ c)) (fun i _ => l.length - (intOf i).toNat)
  case atStart => exact ⟨0, Nat.zero_le _, rfl, rfl, by intro x hx; simp at hx⟩
  case round =>
    obtain ⟨j, hj, rfl, rfl, HA⟩ := hrel
    by_cases hlt : j < l.length
    · obtain ⟨d, hd⟩ : ∃ d, l[j]? = some d := ⟨_, List.getElem?_eq_getElem hlt⟩
      have hix := index_S hd
      have HC := hide hd
      clear hd
      by_cases hdc : d = c
      · have hf : fst c l = j := fst_hit (by rw [HC.out, hdc]) HA.out
        have HF := hide hf
        have hdz : (d.toNat : Int) = z := by rw [hdc]; exact HZ.out
        rw [hdz] at hix
        clear hdc hf hdz
        go_wp2
        go_ret
        exact ⟨by rw [HF.out]; rfl, rfl⟩
      · have hdz : ¬ (d.toNat : Int) = z := fun e => hdc (UInt8.toNat_inj.1 (by have := HZ.out; omega))
        have HNE := hide hdc
        clear hdc
        go_wp2
        go_roundw
        case measure => simp [intOf]; omega
        case rel => exact ⟨j + 1, by omega, by go_num, trivial, take_no HA.out HC.out HNE.out⟩
    · have hjl : j = l.length := by omega
      have hf : fst c l = l.length := fst_miss (by have := HA.out; rw [hjl, List.take_length] at this; exact this)
      have HF := hide hf
      clear hf hjl
      go_wp2
      go_ret
      exact ⟨by rw [HF.out]; rfl, rfl⟩

theorem slice_at {l : Bs} {j : Nat} {d : UInt8} (hd : l[j]? = some d) : ∀ W : World, (Instr.slice 9 (.string (S l)) (some (.int .i64 (j : Int))) (some (.int .i64 ((j : Int) + 1))) none).run Tryd.prog W = .ok (.string (S [d])) W := by
  intro W
  have hj := (List.getElem?_eq_some_iff.1 hd).1
  have h := run_slice_string (P := Tryd.prog) W 9 (S l) .i64 .i64 (j : Int) ((j : Int) + 1) Tryd.underlying9 (by omega) (by omega) (by rw [S_size]; omega)
  rw [h]
  have e1 : ((j : Int) + 1).toNat = j + 1 := by omega
  have e2 : (j : Int).toNat = j := Int.toNat_natCast j
  have e3 : (l.take (j + 1)).drop j = [d] := by
    rw [take_succ hd, List.drop_append_of_le_length (by rw [List.length_take]; omega), List.drop_eq_nil_of_le (by rw [List.length_take]; omega)]
    rfl
  rw [e1, e2, S_extract, e3]

/-- What zzIndex answers. -/
def idxI (c : UInt8) (l : Bs) : Int := if fst c l < l.length then (fst c l : Int) else -1

set_option maxHeartbeats 1000000 in
theorem zzindex_any (c : UInt8) (l : Bs) (w : World) (hl : l.length ≤ 8589934592) : Calls Tryd.prog 46 #[.string (S l), .string (S [c])] w fun e w' => e = .returned (.int .i64 (idxI c l)) ∧ w' = w := by
  go_enter Tryd.func46, Tryd.ntmps46
  go_wp2
  go_loopw [5] (fun i wr => ∃ j : Nat, j ≤ l.length ∧ i = .int .i64 j ∧ wr = w ∧ Hid (∀ x ∈ l.take j, x ≠ c)) (fun i _ => l.length - (intOf i).toNat)
  case atStart => exact ⟨0, Nat.zero_le _, rfl, rfl, by intro x hx; simp at hx⟩
  case round =>
    obtain ⟨j, hj, rfl, rfl, HA⟩ := hrel
    by_cases hlt : j < l.length
    · obtain ⟨d, hd⟩ : ∃ d, l[j]? = some d := ⟨_, List.getElem?_eq_getElem hlt⟩
      have hsl := slice_at hd
      have HC := hide hd
      clear hd
      by_cases hdc : d = c
      · have hf : idxI c l = j := by
          have h1 : fst c l = j := fst_hit (by rw [HC.out, hdc]) HA.out
          unfold idxI; rw [h1, if_pos hlt]
        have HF := hide hf
        subst hdc
        clear hf
        go_wp2
        go_ret
        exact ⟨by rw [HF.out]; rfl, rfl⟩
      · have hne : (d == c) = false := beq_eq_false_iff_ne.2 hdc
        have HNE := hide hdc
        go_wp2
        go_roundw
        case measure => simp [intOf]; omega
        case rel => exact ⟨j + 1, by omega, by go_num, trivial, take_no HA.out HC.out HNE.out⟩
    · have hjl : j = l.length := by omega
      have hf : idxI c l = -1 := by
        have h1 : fst c l = l.length := fst_miss (by have := HA.out; rw [hjl, List.take_length] at this; exact this)
        unfold idxI; rw [h1, if_neg (by omega)]
      have HF := hide hf
      clear hf hjl
      go_wp2
      go_ret
      exact ⟨by rw [HF.out]; rfl, rfl⟩

set_option maxHeartbeats 1000000 in
set_option maxRecDepth 100000 in
theorem zzcut_any (c : UInt8) (l : Bs) (w : World) (hl : l.length ≤ 8589934592) : Calls Tryd.prog 34 #[.string (S l), .string (S [c])] w fun e w' => e = .returned (.tuple #[.string (S (bef c l)), .string (S (aft c l)), .bool (fnd c l)]) ∧ ∃ q, w' = w.drewN q := by
  have hi := zzindex_any c l w hl
  unfold idxI at hi
  by_cases hlt : fst c l < l.length
  · rw [if_pos hlt] at hi
    obtain ⟨k, hk⟩ : ∃ k, k = fst c l := ⟨_, rfl⟩
    have hb : bef c l = l.take k := by unfold bef; rw [hk]
    have ha : aft c l = l.drop (k + 1) := by unfold aft; rw [hk]
    have hf : fnd c l = true := by unfold fnd; exact decide_eq_true hlt
    rw [← hk] at hi hlt
    have HBb := hide hb
    have HAa := hide ha
    have HFf := hide hf
    have hk2 : (k : Int) ≤ (l.length : Int) := by omega
    have hk3 : (k : Int) + 1 ≤ (l.length : Int) := by omega
    have hk0 : (0 : Int) ≤ (k : Int) := by omega
    have hk1 : (0 : Int) ≤ (k : Int) + 1 := by omega
    have hw1 : IntKind.i64.wrap ((k : Int) + 1) = (k : Int) + 1 := by rw [IntKind.wrap_i64]; omega
    clear hb ha hf hk
    go_enter Tryd.func34, Tryd.ntmps34
    go_wp2_with fail
    refine hi.mono ?_
    rintro e w9 ⟨rfl, rfl⟩
    go_wp2
    go_quiet (fail)
    go_wp2
    refine bodyPost_ret (v := .tuple #[.string (S (l.take k)), .string (S (l.drop (k + 1))), .bool true]) ?_ rfl ?_
    · simp [results, Tryd.f34, go_sem]
    · rw [HBb.out, HAa.out, HFf.out]; exact ⟨rfl, _, rfl⟩
  · rw [if_neg hlt] at hi
    have hle := fst_le c l
    have hk : fst c l = l.length := by omega
    have hb : bef c l = l := by unfold bef; rw [hk, List.take_length]
    have ha : aft c l = [] := by unfold aft; rw [hk]; exact List.drop_eq_nil_of_le (by omega)
    have hf : fnd c l = false := by unfold fnd; exact decide_eq_false hlt
    have HBb := hide hb
    have HAa := hide ha
    have HFf := hide hf
    clear hb ha hf hk hle hlt
    go_enter Tryd.func34, Tryd.ntmps34
    go_wp2_with fail
    refine hi.mono ?_
    rintro e w9 ⟨rfl, rfl⟩
    go_wp2
    refine bodyPost_ret (v := .tuple #[.string (S l), .string ⟨#[]⟩, .bool false]) ?_ rfl ?_
    · simp [results, Tryd.f34, go_sem]
    · rw [HBb.out, HAa.out, HFf.out]; exact ⟨rfl, 0, rfl⟩

theorem dots_count : ∀ l : Bs, (dots l).length = l.count 46 + 1
  | [] => rfl
  | c :: l => by
    by_cases hc : c = 46
    · subst hc; rw [dots_point, List.length_cons, dots_count l, List.count_cons_self]
    · obtain ⟨h, t, h1, h2⟩ := dots_cons c l hc
      have := dots_count l
      rw [h1] at this
      rw [h2, List.count_cons_of_ne (by simpa using hc), ← this]; rfl

set_option maxHeartbeats 1000000 in
theorem zzcount_any (l : Bs) (w : World) (hl : l.length ≤ 8589934592) : Calls Tryd.prog 38 #[.string (S l), .string (S [46])] w fun e w' => e = .returned (.int .i64 (l.count 46 : Nat)) ∧ w' = w := by
  have hcl : l.count 46 ≤ l.length := List.count_le_length
  go_enter Tryd.func38, Tryd.ntmps38
  go_wp2
  go_loopw [5, 6] (fun n i wr => ∃ j m : Nat, j ≤ l.length ∧ m ≤ j ∧ i = .int .i64 j ∧ n = .int .i64 m ∧ wr = w ∧ Hid (m = (l.take j).count 46)) (fun _ i _ => l.length - (intOf i).toNat)
  case atStart => exact ⟨0, 0, Nat.zero_le _, Nat.le_refl _, rfl, rfl, rfl, rfl⟩
  case round =>
    obtain ⟨j, m, hj, hm, rfl, rfl, rfl, HA⟩ := hrel
    by_cases hlt : j < l.length
    · obtain ⟨d, hd⟩ : ∃ d, l[j]? = some d := ⟨_, List.getElem?_eq_getElem hlt⟩
      have hsl := slice_at hd
      have HC := hide hd
      clear hd
      by_cases hdc : d = 46
      · subst hdc
        go_wp2
        go_roundw
        case measure => simp [intOf]; omega
        case rel =>
          refine ⟨j + 1, m + 1, by omega, by omega, by go_num, by go_num, trivial, ?_⟩
          show _ = _
          rw [take_succ HC.out, List.count_append, ← HA.out]; simp
      · have hne : (d == 46) = false := beq_eq_false_iff_ne.2 hdc
        have HNE := hide hdc
        go_wp2
        go_roundw
        case measure => simp [intOf]; omega
        case rel =>
          refine ⟨j + 1, m, by omega, by omega, by go_num, rfl, trivial, ?_⟩
          show _ = _
          rw [take_succ HC.out, List.count_append, ← HA.out, List.count_cons_of_ne (by simpa using HNE.out)]; simp
    · have hjl : j = l.length := by omega
      have hf : m = l.count 46 := by rw [HA.out, hjl, List.take_length]
      have HF := hide hf
      clear hf hjl
      go_wp2
      go_ret
      exact ⟨by rw [← HF.out]; rfl, rfl⟩
end Go.Proofs.YtaoeelhgfdknfaaDoor
