/- Texts as lists of bytes; the walk of spec.Sorted over a row that tells the suffixes in their order. No condition but sizes. -/
import Derived.Laws.Strings
import Derived.Laws.IdiomStrings
import Derived.Test.YtaihafoopoaahaaSu5
import Derived.Test.YtaihafoopoaahaaSb1
import Derived.Deep.QuietTactic
import Derived.BigQuiet
import Derived.Sort.Walk0
namespace Go.Proofs.Ytaihafoopoaahaa
open Go.RowKit
open Go.Op (bytesLess)

abbrev Bs := List UInt8
/-- A text of a list of bytes. -/
def S (l : Bs) : ByteArray := ⟨l.toArray⟩
theorem S_toList (l : Bs) : (S l).toList = l := by rw [ByteArray.toList_eq]; simp [S]
theorem S_size (l : Bs) : (S l).size = l.length := by simp [S, ByteArray.size]
theorem S_extract (l : Bs) (a b : Nat) : (S l).extract a b = S ((l.take b).drop a) := by
  have h : ((S l).extract a b).data = (S ((l.take b).drop a)).data := by
    rw [ByteArray.data_extract]
    simp [S, List.extract_toArray, List.extract_eq_take_drop]
    rw [List.drop_take]
  cases h1 : (S l).extract a b
  cases h2 : S ((l.take b).drop a)
  rw [h1, h2] at h
  simp only at h
  rw [h]
theorem E_toList : (⟨#[]⟩ : ByteArray).toList = [] := by rw [ByteArray.toList_eq]
attribute [local go_sem] S_size S_toList E_toList S_extract

theorem bts_len (l : Bs) : (bts l).length = l.length := by simp

set_option maxRecDepth 100000 in
/-- string(b). -/
theorem conv22 {w : World} {K : Nat → Prop} {A : Option Addr} {c : Nat} {D : Bs} (hr : Reads w K 1 A D.length (bts D)) (hnil : A = none → D.length = 0 ∧ c = 0) :
    (convert 22 9 (.slice A D.length c)).run Try.prog w = .ok (.string (S D)) w := by
  cases A with
  | none =>
    obtain ⟨h, rfl⟩ := hnil rfl
    obtain rfl : D = [] := List.eq_nil_of_length_eq_zero h
    rfl
  | some ad =>
    exact run_convert_bytes_back (P := Try.prog) w 22 9 5 ad c D Try.underlying22 Try.underlying5 Try.underlying9 (by
      intro j hj
      obtain ⟨ad', e, _, _, hc⟩ := hr.2 (by omega)
      injection e with e
      subst e
      rw [hc j (.int .u8 ((D[j].toNat : Nat) : Int)) (by rw [List.getElem?_map, List.getElem?_eq_getElem hj]; rfl)])

set_option linter.unusedSimpArgs false in
set_option linter.unusedVariables false in
set_option maxHeartbeats 2000000 in
set_option maxRecDepth 100000 in
theorem sorted_any (l : Bs) (n : Nat) (p : Nat → Nat) (g c : Nat) (w : World) (hl : l.length = n) (hb : Blk w g 3 (arr n (fun k => (p k : Int)))) (hpm : Pm n p) (hor : ∀ j k, j < k → k < n → l.drop (p j) < l.drop (p k)) (hn : n ≤ 1000000) :
    Calls Try.prog 6 #[.string (S l), .slice (some ⟨g, 0, none⟩) n c] w fun e w' => e = .returned (.bool true) ∧ ∃ q, w' = w.drewN q := by
  have HB := hide hb
  have HPM := hide hpm
  have HOR := hide hor
  clear hb hpm hor
  go_enter Try.func6, Try.ntmps6
  go_wp2
  go_loopw [14] (fun s14 wr => ∃ i q : Nat, s14 = .int .i64 i ∧ i ≤ n ∧ wr = w.drewN q) (fun s14 _ => n - (intOf s14).toNat)
  case atStart => exact ⟨0, 0, rfl, by omega, rfl⟩
  case round =>
    obtain ⟨i, q, rfl, hi, rfl⟩ := hrel
    by_cases hlt : i < n
    · have c0 := HB.out.icell hlt
      have hpl := HPM.out.lt i hlt
      have hd1 : decide ((p i : Int) < 0) = false := by simp
      have hd2 : decide ((n : Int) ≤ (p i : Int)) = false := by simp; omega
      by_cases h0 : i = 0
      · have hd3 : decide ((0 : Int) < (i : Int)) = false := by simp; omega
        have hd4 : decide (0 < i) = false := by simp; omega
        have hd5 : decide (n ≤ p i) = false := by simp; omega
        have hd6 : decide ((p i : Int) ≥ (n : Int)) = false := by simp; omega
        have hd7 : decide ((i : Int) > 0) = false := by simp; omega
        have H0 := hide h0
        clear h0
        generalize p i = x at c0 hpl hd1 hd2 hd5 hd6
        go_wp2
        go_quiet (fail)
        go_wp2
        exact ⟨⟨i + 1, q + nq, by go_num, by omega, rfl⟩, by simp [intOf]; omega⟩
      · obtain ⟨j, hj⟩ : ∃ j, i = j + 1 := ⟨i - 1, by omega⟩
        have c1 := HB.out.icell (i := j) (by omega)
        have hpl2 := HPM.out.lt j (by omega)
        have hbl : bytesLess (l.drop (p j)) (l.drop (p i)) = true := by
          rw [Go.Proofs.bytesLess_eq]
          simpa using HOR.out j i (by omega) hlt
        have ht1 : (l.take n) = l := by rw [← hl, List.take_length]
        have hj1 : IntKind.i64.wrap ((i : Int) - 1) = (j : Int) := by rw [IntKind.wrap_i64]; omega
        have hd3 : decide ((0 : Int) < (i : Int)) = true := by simp; omega
        have hd4 : decide (0 < i) = true := by simp; omega
        have hd5 : decide (n ≤ p i) = false := by simp; omega
        have hd6 : decide ((p i : Int) ≥ (n : Int)) = false := by simp; omega
        have hd7 : decide ((i : Int) > 0) = true := by simp; omega
        have hjn : j < n := by omega
        have H0 := hide h0
        have HJ := hide hj
        clear h0 hj
        generalize p i = x at c0 hpl hd1 hd2 hbl hd5 hd6
        generalize p j = y at c1 hpl2 hbl
        go_wp2
        go_quiet (fail)
        go_wp2
        exact ⟨⟨i + 1, q + nq, by go_num, by omega, rfl⟩, by simp [intOf]; omega⟩
    · obtain rfl : i = n := by omega
      go_wp2
      go_ret
      exact ⟨rfl, q, rfl⟩
end Go.Proofs.Ytaihafoopoaahaa
