/- The walk of spec.Split. No condition but sizes. -/
import Derived.Test.YtaoeelhgfdknfaaDoorW1
namespace Go.Proofs.YtaoeelhgfdknfaaDoor
open Go.RowKit

attribute [local go_sem] S_size S_toList E_toList S_extract
abbrev strs (P : List Bs) : List Value := P.map (fun x => Value.string (S x))
theorem info9 : (Tryd.prog.info? 9).map (fun i => (i.zero, i.size, i.bytes)) = some (some (.string ⟨#[]⟩), 1, 16) := by kernel_rfl
theorem info_parts {P : Program} {t : TypeId} {z : Value} {n b : Nat} (h : (P.info? t).map (fun i => (i.zero, i.size, i.bytes)) = some (some z, n, b)) : ∃ i, P.info? t = some i ∧ i.zero = some z ∧ i.size = n ∧ i.bytes = b := by
  cases hi : P.info? t with
  | none => rw [hi] at h; cases h
  | some i =>
    rw [hi] at h
    simp at h
    exact ⟨i, rfl, h.1, h.2.1, h.2.2⟩

/-- The first part grows. -/
def addH (x : Bs) : List Bs → List Bs
  | h :: t => (x ++ h) :: t
  | [] => [x]
theorem addH_nil {P : List Bs} (h : P ≠ []) : addH [] P = P := by cases P with | nil => exact absurd rfl h | cons a t => rfl
theorem drop_at {α : Type} {l : List α} {j : Nat} {c : α} (h : l[j]? = some c) : l.drop j = c :: l.drop (j + 1) := by
  obtain ⟨h1, h2⟩ := List.getElem?_eq_some_iff.1 h
  rw [← h2]; exact List.drop_eq_getElem_cons h1
theorem dots_step {l : Bs} {j f : Nat} {c : UInt8} (hc : l[j]? = some c) (hf : f ≤ j) (hn : c ≠ 46) : addH ((l.take j).drop f) (dots (l.drop j)) = addH ((l.take (j + 1)).drop f) (dots (l.drop (j + 1))) := by
  obtain ⟨h, t, h1, h2⟩ := dots_cons c (l.drop (j + 1)) hn
  have hj := (List.getElem?_eq_some_iff.1 hc).1
  rw [drop_at hc, h2, h1, take_succ hc, List.drop_append_of_le_length (by rw [List.length_take]; omega)]
  simp [addH]
theorem dots_dot {l : Bs} {j : Nat} (x : Bs) (hc : l[j]? = some 46) : addH x (dots (l.drop j)) = x :: dots (l.drop (j + 1)) := by
  rw [drop_at hc, dots_point]
  simp [addH]

/-- What Split hands back. -/
def SplitOut (l : Bs) (w : World) (e : Ending) (w' : World) : Prop :=
  ∃ A c, e = .returned (.slice A (dots l).length c) ∧ Reads w' (fun i => w.heap.size ≤ i) 1 A (dots l).length (strs (dots l)) ∧ (dots l).length ≤ c ∧ c ≤ maxLen ∧ Below w.heap.size w w'

theorem own_cap {w : World} {base : Nat} {e : TypeId} {n : Nat} {A : Option Addr} {c : Nat} {xs : List Value} (h : w.ownsRow base e 1 (.slice A n c) n xs) : n ≤ c ∧ c ≤ maxLen := by
  obtain ⟨_, h2⟩ := h
  rcases h2 with ⟨h3, h4⟩ | ⟨g, cap, cur, hv, _, _, h5, h6, _⟩
  · injection h3 with _ _ h3; subst h3; exact ⟨by omega, by simp [maxLen]⟩
  · injection hv with _ _ hv; subst hv; exact ⟨h5, h6⟩

set_option maxHeartbeats 1000000 in
set_option maxRecDepth 100000 in
theorem split_any (l : Bs) (w : World) (hl : l.length ≤ 8589934592) : Calls Tryd.prog 22 #[.string (S l)] w (SplitOut l w) := by
  obtain ⟨i0, hinf, hz0, hz1, hz2⟩ := info_parts info9
  go_enter Tryd.func22, Tryd.ntmps22
  go_wp2
  go_loopw [3, 4, 8] (fun v f i wr => ∃ (j k : Nat) (P : List Bs), j ≤ l.length ∧ k ≤ j ∧ i = .int .i64 j ∧ f = .int .i64 k ∧ P.length ≤ j ∧ Hid (wr.ownsRow w.heap.size 9 1 v P.length (strs P)) ∧ Hid (Below w.heap.size w wr) ∧ Hid (dots l = P ++ addH ((l.take j).drop k) (dots (l.drop j)))) (fun _ _ i _ => l.length - (intOf i).toNat)
  case atStart => exact ⟨0, 0, [], Nat.zero_le _, Nat.le_refl _, rfl, rfl, Nat.le_refl _, World.ownsRow_nil _ _ _ _, Below.refl _ _, by show _ = _; simp [addH_nil (dots_ne l)]⟩
  case round =>
    obtain ⟨j, k, P, hj, hkj, rfl, rfl, hPj, HO, HB, HD⟩ := hrel
    have hwr := HB.out.size
    by_cases hlt : j < l.length
    · obtain ⟨c, hc⟩ : ∃ c, l[j]? = some c := ⟨_, List.getElem?_eq_getElem hlt⟩
      have hix := index_S hc
      have HC := hide hc
      clear hc
      by_cases h46 : c.toNat = 46
      · have h1 : (c.toNat : Int) = 46 := by omega
        rw [h1] at hix
        have hc46 : c = 46 := UInt8.toNat_inj.1 h46
        have H46 := hide hc46
        clear h46 h1 hc46
        go_wp2_with (at_builtin; go_must (refine wpList_append1 rfl _ _ 45 rfl w.heap.size 9 i0 (.string ⟨#[]⟩) 16 Tryd.underlying45 hinf hz0 hz1 hz2 rfl u3 P.length (strs P) rfl (World.ownsRow.alloc HO.out _) ⟨wr.heap.size, 0, none⟩ 1 (.string (S ((l.take j).drop k))) rfl ((Blk.new wr 9 #[.string (S ((l.take j).drop k))]).cell 0) rfl (by unfold maxLen; omega) (by omega) (by simp; omega) ?_); intro g1 cp w1 hO _ hG hat hg1; have HO1 := hide hO; have HB1 : Hid (Below w.heap.size w w1) := own_append_below HO.out HB.out hG (Nat.le_refl _) hwr; clear hO hG hat hg1)
        go_roundw
        case measure => simp [intOf]; omega
        case rel =>
          refine ⟨j + 1, j + 1, P ++ [(l.take j).drop k], by omega, Nat.le_refl _, by go_num, by go_num, by simp; omega, ?_, HB1.out, ?_⟩
          · show World.ownsRow _ _ _ _ _ _ _
            rw [List.length_append]
            have e : strs (P ++ [(l.take j).drop k]) = strs P ++ [.string (S ((l.take j).drop k))] := by simp
            rw [e]; exact HO1.out
          · show _ = _
            rw [HD.out, dots_dot _ (by rw [HC.out, H46.out])]
            have : (l.take (j + 1)).drop (j + 1) = [] := List.drop_eq_nil_of_le (by rw [List.length_take]; omega)
            rw [this, addH_nil (dots_ne _)]
            simp
      · have h1 : ¬ (c.toNat : Int) = 46 := by omega
        have hn : c ≠ 46 := fun e => h46 (by rw [e]; rfl)
        have HN := hide hn
        clear h46 hn
        go_wp2
        go_roundw
        case measure => simp [intOf]; omega
        case rel =>
          refine ⟨j + 1, k, P, by omega, by omega, by go_num, rfl, by omega, HO.out, HB.out, ?_⟩
          show _ = _
          rw [HD.out, dots_step HC.out hkj HN.out]
    · obtain rfl : j = l.length := by omega
      have hfin : dots l = P ++ [l.drop k] := by
        have h1 := HD.out
        rw [List.take_length, List.drop_length] at h1
        rw [h1]; simp [addH, dots]
      have HF := hide hfin
      have hk2 : k ≤ l.length := hkj
      clear hfin
      go_wp2_with (at_builtin; go_must (refine wpList_append1 rfl _ _ 45 rfl w.heap.size 9 i0 (.string ⟨#[]⟩) 16 Tryd.underlying45 hinf hz0 hz1 hz2 rfl u3 P.length (strs P) rfl (World.ownsRow.alloc HO.out _) ⟨wr.heap.size, 0, none⟩ 1 (.string (S (l.drop k))) rfl ((Blk.new wr 9 #[.string (S (l.drop k))]).cell 0) rfl (by unfold maxLen; omega) (by omega) (by simp; omega) ?_); intro g1 cp w1 hO _ hG hat hg1; have HO1 := hide hO; have HB1 : Hid (Below w.heap.size w w1) := own_append_below HO.out HB.out hG (Nat.le_refl _) hwr; clear hO hG hat hg1)
      go_ret
      unfold SplitOut
      rw [HF.out, List.length_append]
      have e : strs (P ++ [l.drop k]) = strs P ++ [.string (S (l.drop k))] := by simp
      rw [e]
      exact ⟨_, _, rfl, Reads.of_own HO1.out, (own_cap HO1.out).1, (own_cap HO1.out).2, HB1.out⟩
end Go.Proofs.YtaoeelhgfdknfaaDoor
