/- Pairs in memory; the walk of spec.find. Under sizes alone. -/
import Derived.Test.YtammpllfmbmdmaaMok
namespace Go.Proofs.Ytammpllfmbmdmaa
open Go.RowKit

/-- The cells of pairs. -/
def pfl (l : List (Int × Int)) : List Value := l.flatMap (fun q => [.int .i64 q.1, .int .i64 q.2])

theorem pfl_len : ∀ l : List (Int × Int), (pfl l).length = l.length * 2
  | [] => rfl
  | q :: l => by
    have := pfl_len l
    unfold pfl at this ⊢
    rw [List.flatMap_cons, List.length_append, this]
    simp; omega

theorem pfl_append (a b : List (Int × Int)) : pfl (a ++ b) = pfl a ++ pfl b := by simp [pfl]

theorem pfl_at : ∀ {l : List (Int × Int)} {i : Nat} {q : Int × Int}, l[i]? = some q → (pfl l)[i * 2]? = some (.int .i64 q.1) ∧ (pfl l)[i * 2 + 1]? = some (.int .i64 q.2)
  | a :: l, 0, q, h => by
    simp at h; subst h
    exact ⟨rfl, rfl⟩
  | a :: l, i + 1, q, h => by
    have := pfl_at (l := l) (i := i) (q := q) (by simpa using h)
    unfold pfl at this ⊢
    rw [List.flatMap_cons, List.getElem?_append_right (by simp; omega), List.getElem?_append_right (by simp; omega)]
    simp only [List.length_cons, List.length_nil]
    rw [show (i + 1) * 2 - (0 + 1 + 1) = i * 2 by omega, show (i + 1) * 2 + 1 - (0 + 1 + 1) = i * 2 + 1 by omega]
    exact this

theorem pfl_one (l : List (Int × Int)) : ∀ u ∈ pfl l, u.oneCell' = true := by
  intro u hu
  obtain ⟨q, _, hq⟩ := List.mem_flatMap.1 hu
  simp at hq
  rcases hq with rfl | rfl <;> rfl

/-- The slice A, n, c holds the pairs l, in blocks of K. -/
structure PairsIn (w : World) (K : Nat → Prop) (A : Option Addr) (n c : Nat) (l : List (Int × Int)) : Prop where
  len : l.length = n
  cap : n ≤ c
  max : c ≤ maxLen
  reads : Reads w K 2 A n (pfl l)
  nil_ : A = none → c = 0

section
variable {w w' : World} {K : Nat → Prop} {A : Option Addr} {n c : Nat} {l : List (Int × Int)}
theorem PairsIn.none_ : PairsIn w K none 0 0 [] := ⟨rfl, Nat.le_refl _, by simp [maxLen], Reads.none_, fun _ => rfl⟩
theorem PairsIn.keep (h : PairsIn w K A n c l) (hs : w.heap.size ≤ w'.heap.size) (hk : ∀ p : Addr, p.block < w.heap.size → K p.block → w'.cell? p = w.cell? p) : PairsIn w' K A n c l := ⟨h.len, h.cap, h.max, h.reads.keep hs hk, h.nil_⟩
theorem PairsIn.below (h : PairsIn w K A n c l) (hb : Below w.heap.size w w') : PairsIn w' K A n c l := ⟨h.len, h.cap, h.max, h.reads.below hb, h.nil_⟩
theorem PairsIn.more {K' : Nat → Prop} (h : PairsIn w K A n c l) (hB : ∀ i, i < w.heap.size → K i → K' i) : PairsIn w K' A n c l := ⟨h.len, h.cap, h.max, h.reads.more hB, h.nil_⟩
theorem PairsIn.at_ (h : PairsIn w K A n c l) {i : Nat} (hi : i < n) : ∃ ad q, A = some ad ∧ l[i]? = some q ∧ ad.block < w.heap.size ∧ w.cell? (ad.add (i * 2)) = some (.int .i64 q.1) ∧ w.cell? ⟨(ad.add (i * 2)).block, (ad.add (i * 2)).off + 1, none⟩ = some (.int .i64 q.2) := by
  obtain ⟨ad, e, _, hl, hc⟩ := h.reads.2 (by omega)
  have hil : i < l.length := by have := h.len; omega
  have hq : l[i]? = some l[i] := List.getElem?_eq_getElem hil
  obtain ⟨h1, h2⟩ := pfl_at hq
  have h3 := hc _ _ h2
  rw [← add_of_add, show (ad.add (i * 2)).add 1 = ⟨(ad.add (i * 2)).block, (ad.add (i * 2)).off + 1, none⟩ by unfold Addr.add; rw [if_neg (by omega)]] at h3
  exact ⟨ad, _, e, hq, hl, hc _ _ h1, h3⟩
end

/-- The place of a key, or -1. -/
def findI (l : List (Int × Int)) (k : Int) : Option Nat := l.findIdx? (fun q => decide (q.1 = k))
def findZ (l : List (Int × Int)) (k : Int) : Int := match findI l k with | some i => (i : Int) | none => -1

theorem findI_some {l : List (Int × Int)} {k : Int} {i : Nat} {q : Int × Int} (hne : ∀ p ∈ l.take i, p.1 ≠ k) (hq : l[i]? = some q) (hk : q.1 = k) : findI l k = some i := by
  unfold findI
  rw [List.findIdx?_eq_some_iff_getElem]
  obtain ⟨h1, h2⟩ := List.getElem?_eq_some_iff.1 hq
  refine ⟨h1, by rw [h2]; simpa using hk, fun j hj => ?_⟩
  have : l[j] ∈ l.take i := by
    rw [List.mem_take_iff_getElem]
    exact ⟨j, by omega, rfl⟩
  simpa using hne _ this

theorem findI_none {l : List (Int × Int)} {k : Int} (hne : ∀ p ∈ l, p.1 ≠ k) : findI l k = none := by
  unfold findI
  rw [List.findIdx?_eq_none_iff]
  intro p hp
  simpa using hne p hp

set_option linter.unusedVariables false in
set_option maxHeartbeats 1000000 in
set_option maxRecDepth 100000 in
theorem find_any (K : Nat → Prop) (A : Option Addr) (n c : Nat) (l : List (Int × Int)) (k : Int) (w : World) (h : PairsIn w K A n c l) (hn : n ≤ 549755813888) :
    Calls Try.prog 64 #[.slice A n c, .int .i64 k] w fun e w' => e = .returned (.int .i64 (findZ l k)) ∧ Below w.heap.size w w' := by
  have H := hide (h.more (K' := fun i => i < w.heap.size) (fun _ hi _ => hi))
  clear h
  go_enter Try.func64, Try.ntmps64
  go_wp2
  go_loopw [9] (fun i wr => ∃ j : Nat, j ≤ n ∧ i = .int .i64 j ∧ Hid (Below w.heap.size w wr) ∧ Hid (∀ p ∈ l.take j, p.1 ≠ k)) (fun i _ => n - (intOf i).toNat)
  case atStart => exact ⟨0, Nat.zero_le _, rfl, Below.refl _ _, by simp [Hid]⟩
  case round =>
    obtain ⟨j, hj, rfl, hb, hne⟩ := hrel
    by_cases hlt : j < n
    · obtain ⟨ad, q, rfl, hq, hl, h1, h2⟩ := (H.out.keep hb.out.size (fun p hp _ => hb.out.cell hp)).at_ hlt
      have HQ := hide hq
      have HB1 : ∀ o, Hid (Below w.heap.size w (wr.alloc o)) := fun o => hb.out.alloc hb.out.size o
      clear hq
      by_cases hk : q.1 = k
      · go_wp2
        go_ret
        refine ⟨?_, (HB1 _).out⟩
        unfold findZ
        rw [findI_some hne.out HQ.out hk]
        rfl
      · go_wp2
        go_roundw
        case rel =>
          refine ⟨j + 1, by omega, by go_num, (HB1 _).out, ?_⟩
          show ∀ p ∈ l.take (j + 1), p.1 ≠ k
          intro p hp
          rw [List.take_add_one, HQ.out] at hp
          rcases List.mem_append.1 hp with hp | hp
          · exact hne.out p hp
          · have : p = q := by simpa using hp
            rw [this]; exact hk
        case measure => simp [intOf]; omega
    · have hl := H.out.len
      go_wp2
      go_ret
      refine ⟨?_, hb.out⟩
      unfold findZ
      have h1 := hne.out
      rw [List.take_of_length_le (by omega)] at h1
      rw [findI_none h1]
      rfl
end Go.Proofs.Ytammpllfmbmdmaa
