/- The walks of spec.digits, number, sign. No condition but sizes. -/
import Derived.Test.YtaoeelhgfdknfaaDoorCommon
import Derived.Test.YtaoeelhgfdknfaaDoorPl
import Derived.Test.YtaoeelhgfdknfaaDoorChecked
import Derived.WalkSpells
namespace Go.Proofs.YtaoeelhgfdknfaaDoor
open Go.RowKit

theorem index_S {l : Bs} {k : Nat} {c : UInt8} (h : l[k]? = some c) : ∀ W : World, (Instr.index 9 (.string (S l)) (.int .i64 (k : Int))).run Tryd.prog W = .ok (.int .u8 (c.toNat : Int)) W := by
  intro W
  have hk := (List.getElem?_eq_some_iff.1 h).1
  rw [run_index_string W 9 (S l) .i64 k Tryd.underlying9, dif_pos ⟨by omega, by rw [S_size]; omega⟩]
  have : (S l)[(k : Int).toNat]'(by rw [S_size]; omega) = c := by
    have h2 := (List.getElem?_eq_some_iff.1 h).2
    show (l.toArray)[k]'(by simpa using hk) = c
    simpa using h2
  rw [this]

theorem E_toList : (⟨#[]⟩ : ByteArray).toList = [] := by rw [ByteArray.toList_eq]
attribute [local go_sem] S_size S_toList E_toList

theorem isDig_iff {c : UInt8} : isDig c = true ↔ 48 ≤ c.toNat ∧ c.toNat ≤ 57 := by simp [isDig]
theorem take_succ {α : Type} {l : List α} {j : Nat} {c : α} (h : l[j]? = some c) : l.take (j + 1) = l.take j ++ [c] := by rw [List.take_add_one, h]; rfl
theorem mem_at {α : Type} {l : List α} {j : Nat} {c : α} (h : l[j]? = some c) : c ∈ l := List.mem_of_getElem? h
theorem isDig_no {c : UInt8} (h : isDig c = false) : c.toNat < 48 ∨ (48 ≤ c.toNat ∧ 57 < c.toNat) := by
  rcases Nat.lt_or_ge c.toNat 48 with h1 | h1
  · exact Or.inl h1
  · right
    refine ⟨h1, ?_⟩
    rcases Nat.lt_or_ge 57 c.toNat with h2 | h2
    · exact h2
    · rw [isDig_iff.2 ⟨h1, h2⟩] at h; cases h

set_option maxHeartbeats 400000 in
theorem digits_any (l : Bs) (w : World) (hl : l.length ≤ 8589934592) : Calls Tryd.prog 25 #[.string (S l)] w fun e w' => e = .returned (.bool (digitsB l)) ∧ w' = w := by
  go_enter Tryd.func25, Tryd.ntmps25
  go_wp2
  go_loopw [6] (fun i wr => ∃ j : Nat, j ≤ l.length ∧ i = .int .i64 j ∧ wr = w ∧ Hid ((l.take j).all isDig = true)) (fun i _ => l.length - (intOf i).toNat)
  case atStart => exact ⟨0, Nat.zero_le _, rfl, rfl, rfl⟩
  case round =>
    obtain ⟨j, hj, rfl, rfl, HA⟩ := hrel
    by_cases hlt : j < l.length
    · obtain ⟨c, hc⟩ : ∃ c, l[j]? = some c := ⟨_, List.getElem?_eq_getElem hlt⟩
      have hix := index_S hc
      have HC := hide hc
      clear hc
      cases hd : isDig c with
      | true =>
        obtain ⟨h1, h2⟩ := isDig_iff.1 hd
        have HD := hide hd
        clear hd
        go_wp2
        go_roundw
        case measure => simp [intOf]; omega
        case rel =>
          refine ⟨j + 1, by omega, by go_num, trivial, ?_⟩
          show _ = _
          rw [take_succ HC.out, List.all_append, HA.out]
          simp [HD.out]
      | false =>
        have hbad : digitsB l = false := by
          unfold digitsB
          have : l.all isDig = false := by
            rw [List.all_eq_false]
            exact ⟨c, mem_at HC.out, by simp [hd]⟩
          rw [this]; rfl
        have hno := isDig_no hd
        clear hd
        have HB := hide hbad
        clear hbad
        rcases hno with h1 | ⟨h1, h2⟩
        · go_wp2
          go_ret
          exact ⟨by rw [HB.out]; rfl, rfl⟩
        · go_wp2
          go_ret
          exact ⟨by rw [HB.out]; rfl, rfl⟩
    · have hfin : (!l.isEmpty) = digitsB l := by
        unfold digitsB
        have h1 := HA.out
        rw [List.take_of_length_le (by omega)] at h1
        rw [h1]; rfl
      have HF := hide hfin
      clear hfin
      go_wp2
      go_ret
      refine ⟨?_, rfl⟩
      rw [← HF.out]; rfl

theorem numB_snoc (l : Bs) (c : UInt8) : numB (l ++ [c]) = numB l * 10 + ((c.toNat : Int) - 48) := by simp [numB]
theorem numB_bound : ∀ (n : Nat) (l : Bs), l.length = n → l.all isDig = true → 0 ≤ numB l ∧ numB l < 10 ^ n
  | 0, l, h, _ => by
    obtain rfl : l = [] := List.eq_nil_of_length_eq_zero h
    simp [numB]
  | n + 1, l, h, hd => by
    rcases List.eq_nil_or_concat l with rfl | ⟨x, c, rfl⟩
    · simp at h
    · rw [List.concat_eq_append] at *
      rw [List.all_append] at hd
      simp only [Bool.and_eq_true] at hd
      obtain ⟨h1, h2⟩ := numB_bound n x (by simpa using h) hd.1
      have h3 := isDig_iff.1 (by simpa using hd.2 : isDig c = true)
      rw [numB_snoc]
      have e : (10 : Int) ^ (n + 1) = 10 ^ n * 10 := Int.pow_succ ..
      constructor <;> omega
theorem all_take {l : Bs} (h : l.all isDig = true) (j : Nat) : (l.take j).all isDig = true := by
  rw [List.all_eq_true] at h ⊢
  exact fun x hx => h x (List.mem_of_mem_take hx)
theorem num_small {l : Bs} (h : l.all isDig = true) {k : Nat} (hk : l.length ≤ k) : 0 ≤ numB l ∧ numB l < 10 ^ k := by
  obtain ⟨h1, h2⟩ := numB_bound _ l rfl h
  have h3 : (10 : Int) ^ l.length ≤ 10 ^ k := by exact_mod_cast Nat.pow_le_pow_right (by decide) hk
  exact ⟨h1, by omega⟩

set_option maxHeartbeats 400000 in
theorem number_any (l : Bs) (w : World) (hd : l.all isDig = true) (hl : l.length ≤ 18) : Calls Tryd.prog 26 #[.string (S l)] w fun e w' => e = .returned (.int .i64 (numB l)) ∧ w' = w := by
  have HD := hide hd
  clear hd
  go_enter Tryd.func26, Tryd.ntmps26
  go_wp2
  go_loopw [3, 7] (fun n i wr => ∃ j : Nat, j ≤ l.length ∧ i = .int .i64 j ∧ wr = w ∧ n = .int .i64 (numB (l.take j))) (fun _ i _ => l.length - (intOf i).toNat)
  case atStart => exact ⟨0, Nat.zero_le _, rfl, rfl, rfl⟩
  case round =>
    obtain ⟨j, hj, rfl, rfl, rfl⟩ := hrel
    by_cases hlt : j < l.length
    · obtain ⟨c, hc⟩ : ∃ c, l[j]? = some c := ⟨_, List.getElem?_eq_getElem hlt⟩
      have hix := index_S hc
      have HC := hide hc
      have hcd := isDig_iff.1 (List.all_eq_true.1 HD.out c (mem_at hc))
      obtain ⟨h1, h2⟩ := num_small (all_take HD.out j) (k := 17) (by rw [List.length_take]; omega)
      obtain ⟨x, hx⟩ : ∃ x, x = numB (l.take j) := ⟨_, rfl⟩
      rw [← hx] at h1 h2 ⊢
      have HX := hide hx
      clear hc hx
      have h3 : x < 100000000000000000 := by simpa using h2
      clear h2
      go_wp2
      go_roundw
      case measure => simp [intOf]; omega
      case rel =>
        refine ⟨j + 1, by omega, by go_num, trivial, ?_⟩
        rw [take_succ HC.out, numB_snoc, ← HX.out]
    · obtain rfl : j = l.length := by omega
      go_wp2
      go_ret
      rw [List.take_length]
      exact ⟨rfl, rfl⟩

theorem sign_any (a b : Int) (w : World) : Calls Tryd.prog 21 #[.int .i64 a, .int .i64 b] w fun e w' => e = .returned (.int .i64 (sgn a b)) ∧ w' = w := by
  rcases Int.lt_trichotomy a b with h | h | h
  · have e : sgn a b = -1 := by unfold sgn; rw [if_pos h]
    rw [e]
    go_enter Tryd.func21, Tryd.ntmps21
    go_wp2
    go_ret
    exact ⟨rfl, rfl⟩
  · subst h
    have e : sgn a a = 0 := by unfold sgn; rw [if_neg (Int.lt_irrefl _), if_neg (Int.lt_irrefl _)]
    rw [e]
    go_enter Tryd.func21, Tryd.ntmps21
    go_wp2
    go_ret
    exact ⟨rfl, rfl⟩
  · have e : sgn a b = 1 := by unfold sgn; rw [if_neg (by omega), if_pos h]
    have h2 : ¬ a < b := by omega
    rw [e]
    go_enter Tryd.func21, Tryd.ntmps21
    go_wp2
    go_ret
    exact ⟨rfl, rfl⟩
end Go.Proofs.YtaoeelhgfdknfaaDoor
