/- Texts as lists of bytes; how the machine reads them. No condition. -/
import Derived.Laws.Strings
import Derived.Test.YtjekaagjgamfkaaDoorCommon
import Derived.Test.YtjekaagjgamfkaaDoorChecked
import Derived.WalkSpells
namespace Go.Proofs.YtjekaagjgamfkaaDoor
open Go.RowKit

abbrev Bs := List UInt8
/-- A text of a list of bytes. -/
def S (l : Bs) : ByteArray := ⟨l.toArray⟩
theorem S_toList (l : Bs) : (S l).toList = l := by rw [ByteArray.toList_eq]; simp [S]
theorem S_size (l : Bs) : (S l).size = l.length := by simp [S, ByteArray.size]
theorem S_of (s : ByteArray) : S s.toList = s := by rw [ByteArray.toList_eq]; simp [S]
theorem S_extract (l : Bs) (a b : Nat) : (S l).extract a b = S ((l.take b).drop a) := by
  have h : ((S l).extract a b).data = (S ((l.take b).drop a)).data := by
    rw [ByteArray.data_extract]
    simp [S, List.extract_toArray, List.extract_eq_take_drop]
    rw [List.drop_take]
  cases h1 : (S l).extract a b
  cases h2 : S ((l.take b).drop a)
  rw [h1, h2] at h
  simp only at h
  rw [h]
theorem S_inj {a b : Bs} (h : S a = S b) : a = b := by rw [← S_toList a, ← S_toList b, h]
theorem E_toList : (⟨#[]⟩ : ByteArray).toList = [] := by rw [ByteArray.toList_eq]

theorem index_S {l : Bs} {k : Nat} {c : UInt8} (h : l[k]? = some c) : ∀ W : World, (Instr.index 9 (.string (S l)) (.int .i64 (k : Int))).run Tryd.prog W = .ok (.int .u8 (c.toNat : Int)) W := by
  intro W
  have hk := (List.getElem?_eq_some_iff.1 h).1
  rw [run_index_string W 9 (S l) .i64 k Tryd.underlying9, dif_pos ⟨by omega, by rw [S_size]; omega⟩]
  have : (S l)[(k : Int).toNat]'(by rw [S_size]; omega) = c := by
    have h2 := (List.getElem?_eq_some_iff.1 h).2
    show (l.toArray)[k]'(by simpa using hk) = c
    simpa using h2
  rw [this]
theorem take_succ {α : Type} {l : List α} {j : Nat} {c : α} (h : l[j]? = some c) : l.take (j + 1) = l.take j ++ [c] := by rw [List.take_add_one, h]; rfl
end Go.Proofs.YtjekaagjgamfkaaDoor
