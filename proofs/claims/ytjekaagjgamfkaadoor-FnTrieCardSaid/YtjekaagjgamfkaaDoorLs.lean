/- Lists of texts in memory; the walks of zzFits3 and ascii. Under sizes alone. -/
import Derived.Test.YtjekaagjgamfkaaDoorTs
import Derived.Deep.QuietTactic
import Derived.BigQuiet
import Derived.Lib.Walk
namespace Go.Proofs.YtjekaagjgamfkaaDoor
open Go.RowKit
attribute [local go_sem] S_size S_toList E_toList

/-- Texts as a slice's cells. -/
def strs (ks : List Bs) : List Value := ks.map (fun k => .string (S k))
theorem strs_at {ks : List Bs} {i : Nat} {k : Bs} (h : ks[i]? = some k) : (strs ks)[i]? = some (.string (S k)) := by simp [strs, h]

abbrev StrsIn (w : World) (A : Option Addr) (n : Nat) (ks : List Bs) : Prop := Reads w (fun _ => True) 1 A n (strs ks)
theorem StrsIn.len {w : World} {A : Option Addr} {n : Nat} {ks : List Bs} (h : StrsIn w A n ks) : ks.length = n := by
  have := h.1
  simpa [strs] using this
theorem StrsIn.cell {w : World} {A : Option Addr} {n i : Nat} {ks : List Bs} {k : Bs} (h : StrsIn w A n ks) (hk : ks[i]? = some k) : ∃ ad, A = some ad ∧ ad.block < w.heap.size ∧ w.cell? (ad.add i) = some (.string (S k)) := by
  have hl := (List.getElem?_eq_some_iff.1 hk).1
  obtain ⟨ad, e, _, h2, h3⟩ := h.2 (by have := h.len; omega)
  exact ⟨ad, e, h2, h3 i _ (strs_at hk)⟩

def fits3B (ks : List Bs) : Bool := decide (ks.length ≤ 2147483647) && ks.all (fun k => decide (k.length ≤ 2147483647))
def asciiB (ks : List Bs) : Bool := ks.all (fun k => k.all (fun c => decide (c.toNat < 128)))

set_option linter.unusedSimpArgs false in
set_option linter.unusedVariables false in
set_option maxHeartbeats 1000000 in
theorem fits3_any (A : Option Addr) (n c : Nat) (ks : List Bs) (w : World) (hr : StrsIn w A n ks) (hm : n ≤ maxLen) :
    Calls Tryd.prog 5 #[.slice A n c] w fun e w' => e = .returned (.bool (fits3B ks)) ∧ w = w' := by
  unfold maxLen at hm
  have hl := hr.len
  have HR := hide hr
  have HL := hide hl
  clear hr hl
  by_cases hbig : (2147483647 : Int) < (n : Int)
  · have hf : fits3B ks = false := by
      unfold fits3B
      rw [decide_eq_false (by have := HL.out; omega)]
      rfl
    have HF := hide hf
    clear hf
    go_enter Tryd.func5, Tryd.ntmps5
    go_wp2
    go_ret
    exact ⟨by rw [HF.out]; rfl, rfl⟩
  · go_enter Tryd.func5, Tryd.ntmps5
    go_wp2
    go_loop [10] (fun s10 => ∃ i : Nat, s10 = .int .i64 i ∧ i ≤ n ∧ Hid (∀ k ∈ ks.take i, k.length ≤ 2147483647)) (fun s10 => n - (intOf s10).toNat)
    case atStart => exact ⟨0, rfl, Nat.zero_le _, (fun k hk => (by cases hk) : ∀ k ∈ ks.take 0, k.length ≤ 2147483647)⟩
    case round =>
      obtain ⟨i, rfl, hi, HI⟩ := hrel
      by_cases hlt : i < n
      · obtain ⟨k, hk⟩ : ∃ k, ks[i]? = some k := ⟨_, List.getElem?_eq_getElem (by have := HL.out; omega)⟩
        obtain ⟨ad, rfl, hadl, hc⟩ := HR.out.cell hk
        have HK := hide hk
        clear hk
        by_cases hkb : (2147483647 : Int) < (k.length : Int)
        · have hf : fits3B ks = false := by
            unfold fits3B
            rw [Bool.and_eq_false_iff]
            refine Or.inr ?_
            rw [List.all_eq_false]
            refine ⟨k, List.mem_of_getElem? HK.out, ?_⟩
            simp
            omega
          have HF := hide hf
          clear hf
          go_wp2
          go_ret
          exact ⟨by rw [HF.out]; rfl, rfl⟩
        · go_wp2
          go_round
          case measure => simp [intOf]; omega
          case rel =>
            refine ⟨i + 1, by go_num, by omega, ?_⟩
            have h1 : ∀ q ∈ ks.take (i + 1), q.length ≤ 2147483647 := fun q hq => by
              rw [take_succ HK.out] at hq
              rcases List.mem_append.1 hq with hq | hq
              · exact HI.out q hq
              · rw [List.mem_singleton.1 hq]; omega
            exact h1
      · have hf : fits3B ks = true := by
          unfold fits3B
          have hin : ks.take i = ks := List.take_of_length_le (by have := HL.out; omega)
          have h1 := HI.out
          rw [hin] at h1
          rw [decide_eq_true (by have := HL.out; omega), Bool.true_and, List.all_eq_true]
          intro k hk
          simpa using h1 k hk
        have HF := hide hf
        clear hf
        go_wp2
        go_ret
        exact ⟨by rw [HF.out]; rfl, rfl⟩

set_option linter.unusedSimpArgs false in
set_option linter.unusedVariables false in
set_option maxHeartbeats 1000000 in
theorem ascii_any (A : Option Addr) (n c : Nat) (ks : List Bs) (w : World) (hr : StrsIn w A n ks) (hm : n ≤ 4294967296) (hk4 : ∀ k ∈ ks, k.length ≤ 4294967296) :
    Calls Tryd.prog 7 #[.slice A n c] w fun e w' => e = .returned (.bool (asciiB ks)) ∧ w = w' := by
  have hl := hr.len
  have HR := hide hr
  have HL := hide hl
  have HK4 := hide hk4
  clear hr hl hk4
  go_enter Tryd.func7, Tryd.ntmps7
  go_wp2
  go_loop [8] (fun s8 => ∃ i : Nat, s8 = .int .i64 i ∧ i ≤ n ∧ Hid (∀ k ∈ ks.take i, ∀ c ∈ k, c.toNat < 128)) (fun s8 => n - (intOf s8).toNat)
  case atStart => exact ⟨0, rfl, Nat.zero_le _, (fun k hk => (by cases hk) : ∀ k ∈ ks.take 0, ∀ c ∈ k, c.toNat < 128)⟩
  case round =>
    obtain ⟨i, rfl, hi, HI⟩ := hrel
    by_cases hlt : i < n
    · obtain ⟨k, hk⟩ : ∃ k, ks[i]? = some k := ⟨_, List.getElem?_eq_getElem (by have := HL.out; omega)⟩
      obtain ⟨ad, rfl, hadl, hc⟩ := HR.out.cell hk
      have hkl := HK4.out k (List.mem_of_getElem? hk)
      have HK := hide hk
      clear hk
      go_wp2
      go_loop [14] (fun s14 => ∃ j : Nat, s14 = .int .i64 j ∧ j ≤ k.length ∧ Hid (∀ c ∈ k.take j, c.toNat < 128)) (fun s14 => k.length - (intOf s14).toNat)
      case atStart => exact ⟨0, rfl, Nat.zero_le _, (fun c hc => (by cases hc) : ∀ c ∈ k.take 0, c.toNat < 128)⟩
      case round =>
        obtain ⟨j, rfl, hj, HJ⟩ := hrel
        by_cases hjl : j < k.length
        · obtain ⟨x, hx⟩ : ∃ x, k[j]? = some x := ⟨_, List.getElem?_eq_getElem hjl⟩
          have hix := index_S hx
          have HX := hide hx
          clear hx
          by_cases hxb : (128 : Int) ≤ (x.toNat : Int)
          · have hf : asciiB ks = false := by
              unfold asciiB
              rw [List.all_eq_false]
              refine ⟨k, List.mem_of_getElem? HK.out, ?_⟩
              rw [List.all_eq_true]
              intro h
              have := h x (List.mem_of_getElem? HX.out)
              simp at this
              omega
            have HF := hide hf
            clear hf
            go_wp2
            go_ret
            exact ⟨by rw [HF.out]; rfl, rfl⟩
          · go_wp2
            go_round
            case measure => simp [intOf]; omega
            case rel =>
              refine ⟨j + 1, by go_num, by omega, ?_⟩
              have h1 : ∀ c ∈ k.take (j + 1), c.toNat < 128 := fun q hq => by
                rw [take_succ HX.out] at hq
                rcases List.mem_append.1 hq with hq | hq
                · exact HJ.out q hq
                · rw [List.mem_singleton.1 hq]; omega
              exact h1
        · have hjk : k.take j = k := List.take_of_length_le (by omega)
          have HJK := hide hjk
          clear hjk
          go_wp2
          go_round
          case measure => simp [intOf]; omega
          case rel =>
            refine ⟨i + 1, by go_num, by omega, ?_⟩
            have h1 : ∀ q ∈ ks.take (i + 1), ∀ c ∈ q, c.toNat < 128 := fun q hq => by
              rw [take_succ HK.out] at hq
              rcases List.mem_append.1 hq with hq | hq
              · exact HI.out q hq
              · rw [List.mem_singleton.1 hq]
                have := HJ.out
                rw [HJK.out] at this
                exact this
            exact h1
    · have hf : asciiB ks = true := by
        unfold asciiB
        have hin : ks.take i = ks := List.take_of_length_le (by have := HL.out; omega)
        have h1 := HI.out
        rw [hin] at h1
        rw [List.all_eq_true]
        intro k hk
        rw [List.all_eq_true]
        intro c hc
        simpa using h1 k hk c hc
      have HF := hide hf
      clear hf
      go_wp2
      go_ret
      exact ⟨by rw [HF.out]; rfl, rfl⟩
end Go.Proofs.YtjekaagjgamfkaaDoor
