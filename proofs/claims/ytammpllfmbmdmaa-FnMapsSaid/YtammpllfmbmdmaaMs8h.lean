/- A row of the call's own, sorted by Go's library; the keys of a hash map, in order. No condition but sizes. -/
import Derived.Test.YtammpllfmbmdmaaMd2
import Derived.Test.YtammpllfmbmdmaaSh1
import Derived.Sort.OwnSortedInts
namespace Go.Proofs.Ytammpllfmbmdmaa
open Go.RowKit

theorem sort_own {B : Nat} {v : Value} {zs : List Int} {w : World} (h : w.ownsRow B 3 1 v zs.length (ints zs)) (hl : zs.length ≤ 549755813888) :
    Calls Try.prog 81 #[v] w fun e w' => e = .returned (.tuple #[]) ∧ w'.ownsRow B 3 1 v zs.length (ints (zs.mergeSort fun x y => decide (x ≤ y))) ∧ w.grownBy w' v.ownBlock := by
  rcases id h.2 with ⟨rfl, h0⟩ | ⟨g, cap, cur, rfl, hB, hg, hn, hm, hs, ht⟩
  · have hz : zs = [] := List.eq_nil_of_length_eq_zero h0
    subst hz
    refine (Any.slices_Sort_int_none Try.lays189 none 0 w).mono ?_
    rintro e w' ⟨rfl, hw⟩
    obtain rfl := hw.symm
    refine ⟨rfl, ?_, World.grownBy.refl _ _⟩
    have e1 : ([] : List Int).mergeSort (fun x y => decide (x ≤ y)) = [] := by simp
    rw [e1]
    exact h
  · have hH := holds_of_blockI (ss := zs) hg (by rw [Nat.mul_one] at ht; exact ht)
    refine (Any.slices_Sort_int Try.lays189 g 0 cap zs w hH (Array.getElem?_eq_some_iff.1 hg).1 (by omega)).mono ?_
    rintro e w' ⟨rfl, n, os, rfl⟩
    exact ⟨rfl, ownsRow_sortedI (by simp) hB hg hn hm hs, grownBy_sortedI _⟩

theorem sort_perm {a b : List Int} (h : a.Perm b) : a.mergeSort (fun x y => decide (x ≤ y)) = b.mergeSort (fun x y => decide (x ≤ y)) := by
  refine List.Perm.eq_of_pairwise (le := fun x y => decide (x ≤ y) = true) (fun x y _ _ h1 h2 => ?_) ?_ ?_ ((List.mergeSort_perm _ _).trans (h.trans (List.mergeSort_perm _ _).symm))
  · rw [decide_eq_true_eq] at h1 h2; omega
  · exact List.pairwise_mergeSort (fun a b c h1 h2 => by rw [decide_eq_true_eq] at *; omega) (fun a b => by simp; omega) _
  · exact List.pairwise_mergeSort (fun a b c h1 h2 => by rw [decide_eq_true_eq] at *; omega) (fun a b => by simp; omega) _

theorem own_free2 {w : World} {base : Nat} {A : Option Addr} {n c : Nat} {xs : List Int} {F : Nat → Prop} (h : w.ownsRow base 3 1 (.slice A n c) n (ints xs)) (hF : ∀ i, F i → i < base) : SliceIs w (Free w F) A n c xs := by
  have h0 := SliceIs.of_own h
  refine ⟨h0.len, h0.cap, h0.max, ⟨h0.reads.1, fun hn => ?_⟩, h0.nil_⟩
  obtain ⟨ad, rfl, hk, hlt, hcs⟩ := h0.reads.2 hn
  obtain ⟨A', c', e, hr⟩ := own_reads h
  injection e with e1 _ e2
  subst e1; subst e2
  obtain ⟨ad', e3, hb, _, _⟩ := hr.2 hn
  injection e3 with e3
  subst e3
  exact ⟨ad, rfl, ⟨fun hf => by have := hF _ hf; omega, hk⟩, hlt, hcs⟩

end Go.Proofs.Ytammpllfmbmdmaa
