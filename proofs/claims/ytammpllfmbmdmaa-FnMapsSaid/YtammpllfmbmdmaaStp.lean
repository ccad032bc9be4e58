/- The steps that a law is handed: in memory, and the walks of zzFits5, zzFits4, step. -/
import Derived.Test.YtammpllfmbmdmaaRows
import Derived.Test.YtammpllfmbmdmaaCommon
import Derived.BigQuiet
import Derived.Deep.LoopGhost
import Derived.Deep.QuietTactic
namespace Go.Proofs.Ytammpllfmbmdmaa
open Go.RowKit

/-- A step. -/
structure StepD where
  what : Int
  which : Int
  index : Int
  bit : Int
  n : Int
  key : Int
  value : Int
  list : List Int

/-- A step's cells, v the list's slice. -/
def StepD.cells (s : StepD) (v : Value) : Array Value := #[.int .i64 s.what, .int .i64 s.which, .int .i64 s.index, .int .i64 s.bit, .int .i64 s.n, .int .i64 s.key, .int .i64 s.value, v]

/-- The slice A, n, c holds the ints xs, in blocks of K. -/
structure SliceIs (w : World) (K : Nat → Prop) (A : Option Addr) (n c : Nat) (xs : List Int) : Prop where
  len : xs.length = n
  cap : n ≤ c
  max : c ≤ maxLen
  reads : Reads w K 1 A n (ints xs)
  nil_ : A = none → c = 0

section
variable {w w' : World} {K : Nat → Prop} {A : Option Addr} {n c : Nat} {xs : List Int}
theorem SliceIs.none_ : SliceIs w K none 0 0 [] := ⟨rfl, Nat.le_refl _, by simp [maxLen], Reads.none_, fun _ => rfl⟩
theorem SliceIs.keep (h : SliceIs w K A n c xs) (hs : w.heap.size ≤ w'.heap.size) (hk : ∀ p : Addr, p.block < w.heap.size → K p.block → w'.cell? p = w.cell? p) : SliceIs w' K A n c xs := ⟨h.len, h.cap, h.max, h.reads.keep hs hk, h.nil_⟩
theorem SliceIs.chg {S : Nat → Prop} (h : SliceIs w K A n c xs) (hc : Chg S w w') (hK : ∀ i, i < w.heap.size → K i → ¬ S i) : SliceIs w' K A n c xs := h.keep hc.size (fun _ hp hk => hc.cell hp (hK _ hp hk))
theorem SliceIs.more {K' : Nat → Prop} (h : SliceIs w K A n c xs) (hB : ∀ i, i < w.heap.size → K i → K' i) : SliceIs w K' A n c xs := ⟨h.len, h.cap, h.max, h.reads.more hB, h.nil_⟩
theorem SliceIs.below (h : SliceIs w K A n c xs) (hb : Below w.heap.size w w') : SliceIs w' K A n c xs := ⟨h.len, h.cap, h.max, h.reads.below hb, h.nil_⟩
end

/-- From e on lie the cells of a step. -/
structure StepAt (w : World) (K : Nat → Prop) (e : Addr) (s : StepD) (A : Option Addr) (c : Nat) : Prop where
  here : K e.block ∧ e.block < w.heap.size
  sl : SliceIs w K A s.list.length c s.list
  c0 : w.cell? e = some (.int .i64 s.what)
  c1 : w.cell? ⟨e.block, e.off + 1, none⟩ = some (.int .i64 s.which)
  c2 : w.cell? ⟨e.block, e.off + 2, none⟩ = some (.int .i64 s.index)
  c3 : w.cell? ⟨e.block, e.off + 3, none⟩ = some (.int .i64 s.bit)
  c4 : w.cell? ⟨e.block, e.off + 4, none⟩ = some (.int .i64 s.n)
  c5 : w.cell? ⟨e.block, e.off + 5, none⟩ = some (.int .i64 s.key)
  c6 : w.cell? ⟨e.block, e.off + 6, none⟩ = some (.int .i64 s.value)
  c7 : w.cell? ⟨e.block, e.off + 7, none⟩ = some (.slice A s.list.length c)

theorem StepAt.keep {w w' : World} {K : Nat → Prop} {e : Addr} {s : StepD} {A : Option Addr} {c : Nat} (h : StepAt w K e s A c) (hs : w.heap.size ≤ w'.heap.size) (hk : ∀ p : Addr, p.block < w.heap.size → K p.block → w'.cell? p = w.cell? p) : StepAt w' K e s A c := by
  have hh := h.here
  exact ⟨⟨hh.1, Nat.lt_of_lt_of_le hh.2 hs⟩, h.sl.keep hs hk, (hk _ hh.2 hh.1).trans h.c0, (hk ⟨e.block, e.off + 1, none⟩ hh.2 hh.1).trans h.c1, (hk ⟨e.block, e.off + 2, none⟩ hh.2 hh.1).trans h.c2, (hk ⟨e.block, e.off + 3, none⟩ hh.2 hh.1).trans h.c3, (hk ⟨e.block, e.off + 4, none⟩ hh.2 hh.1).trans h.c4, (hk ⟨e.block, e.off + 5, none⟩ hh.2 hh.1).trans h.c5, (hk ⟨e.block, e.off + 6, none⟩ hh.2 hh.1).trans h.c6, (hk ⟨e.block, e.off + 7, none⟩ hh.2 hh.1).trans h.c7⟩

/-- The slice with address A and k elements holds the steps S, in blocks of K. -/
def StepsIn (w : World) (K : Nat → Prop) (A : Option Addr) (k : Nat) (S : List StepD) : Prop :=
  S.length = k ∧ ∀ i, i < k → ∃ ad s LA lc, A = some ad ∧ S[i]? = some s ∧ StepAt w K (ad.add (i * 8)) s LA lc

section
variable {w w' : World} {K : Nat → Prop} {A : Option Addr} {k : Nat} {S : List StepD}
theorem StepsIn.keep (h : StepsIn w K A k S) (hs : w.heap.size ≤ w'.heap.size) (hk : ∀ p : Addr, p.block < w.heap.size → K p.block → w'.cell? p = w.cell? p) : StepsIn w' K A k S :=
  ⟨h.1, fun i hi => by
    obtain ⟨ad, s, LA, lc, e, hx, hst⟩ := h.2 i hi
    exact ⟨ad, s, LA, lc, e, hx, hst.keep hs hk⟩⟩
theorem StepsIn.chg {T : Nat → Prop} (h : StepsIn w K A k S) (hc : Chg T w w') (hK : ∀ i, i < w.heap.size → K i → ¬ T i) : StepsIn w' K A k S := h.keep hc.size (fun _ hp hk => hc.cell hp (hK _ hp hk))
theorem StepsIn.take (h : StepsIn w K A k S) {j : Nat} (hj : j ≤ k) : StepsIn w K A j (S.take j) :=
  ⟨by have := h.1; simp; omega, fun i hi => by
    obtain ⟨ad, s, LA, lc, e, hx, hst⟩ := h.2 i (by omega)
    exact ⟨ad, s, LA, lc, e, by rw [List.getElem?_take, if_pos hi]; exact hx, hst⟩⟩
theorem StepsIn.old (h : StepsIn w K A k S) : StepsIn w (fun i => i < w.heap.size) A k S :=
  ⟨h.1, fun i hi => by
    obtain ⟨ad, s, LA, lc, e, hx, hst⟩ := h.2 i hi
    exact ⟨ad, s, LA, lc, e, hx, ⟨⟨hst.here.2, hst.here.2⟩, hst.sl.more (fun _ hi _ => hi), hst.c0, hst.c1, hst.c2, hst.c3, hst.c4, hst.c5, hst.c6, hst.c7⟩⟩⟩
end

set_option maxHeartbeats 400000 in
theorem fits5_any (s : StepD) (A : Option Addr) (n c : Nat) (hn : n ≤ maxLen) (w : World) :
    Calls Try.prog 22 #[.agg (s.cells (.slice A n c))] w fun e w' => e = .returned (.bool (decide (n ≤ 2147483647))) ∧ w' = w.alloc (.cells (s.cells (.slice A n c)) 29) := by
  have hn2 := hn
  unfold maxLen at hn2
  unfold StepD.cells
  go_enter Try.func22, Try.ntmps22
  by_cases h : n ≤ 2147483647
  · go_wp2
    go_ret
    exact ⟨ret_bool (by simp [h]), rfl⟩
  · go_wp2
    go_ret
    exact ⟨ret_bool (by simp [h]), rfl⟩

/-- No list is longer than the bound. -/
def fitsS (k : Nat) (S : List StepD) : Bool := decide (k ≤ 2147483647 ∧ ∀ s ∈ S, s.list.length ≤ 2147483647)

set_option maxHeartbeats 400000 in
theorem fits4_any (K : Nat → Prop) (A : Option Addr) (k c : Nat) (S : List StepD) (w : World) (hg : StepsIn w K A k S) (hk : k ≤ maxLen) :
    Calls Try.prog 10 #[.slice A k c] w fun e w' => e = .returned (.bool (fitsS k S)) ∧ Below w.heap.size w w' := by
  have HG := hide hg.old
  have hk2 := hk
  unfold maxLen at hk2
  clear hg
  by_cases h0 : k ≤ 2147483647
  · go_enter Try.func10, Try.ntmps10
    go_wp2
    go_loopw [10] (fun i wr => ∃ j : Nat, j ≤ k ∧ i = .int .i64 j ∧ Below w.heap.size w wr ∧ Hid (∀ s ∈ S.take j, s.list.length ≤ 2147483647)) (fun i _ => k - (intOf i).toNat)
    case atStart => exact ⟨0, Nat.zero_le _, rfl, Below.refl _ _, by simp [Hid]⟩
    case round =>
      obtain ⟨j, hj, rfl, hb, hall⟩ := hrel
      have HB := hide hb
      have hbs := hb.size
      have hg := HG.out.keep hb.size (fun p hp _ => hb.cell hp)
      have HGr := hide hg
      clear hb hg
      by_cases hlt : j < k
      · obtain ⟨ad, s, LA, lc, rfl, hx, hst⟩ := HGr.out.2 j hlt
        have HX := hide hx
        obtain ⟨c0, c1, c2, c3, c4, c5, c6, c7⟩ := And.intro hst.c0 (And.intro hst.c1 (And.intro hst.c2 (And.intro hst.c3 (And.intro hst.c4 (And.intro hst.c5 (And.intro hst.c6 hst.c7))))))
        have hm : s.list.length ≤ maxLen := Nat.le_trans hst.sl.cap hst.sl.max
        clear hx hst
        go_wp2_with fail
        have hcall := fits5_any s LA s.list.length lc hm
        unfold StepD.cells at hcall
        refine (hcall _).mono ?_
        clear hcall
        rintro e w1 ⟨rfl, rfl⟩
        have HB1 : Hid (Below w.heap.size w ((wr.alloc (.cells (s.cells (.slice LA s.list.length lc)) 29)).alloc (.cells (s.cells (.slice LA s.list.length lc)) 29))) := (HB.out.alloc hbs _).alloc (by simp; omega) _
        unfold StepD.cells at HB1
        by_cases hl : s.list.length ≤ 2147483647
        · go_wp2
          go_roundw
          case rel =>
            refine ⟨j + 1, by omega, by go_num, HB1.out, ?_⟩
            show ∀ s ∈ S.take (j + 1), s.list.length ≤ 2147483647
            intro t ht
            rw [List.take_add_one, HX.out] at ht
            rcases List.mem_append.1 ht with ht | ht
            · exact hall.out t ht
            · have : t = s := by simpa using ht
              rw [this]; exact hl
          case measure => simp [intOf]; omega
        · have HM := hide (List.mem_of_getElem? HX.out)
          go_wp2
          go_ret
          refine ⟨ret_bool ?_, HB1.out⟩
          unfold fitsS
          symm
          rw [decide_eq_false_iff_not]
          exact fun h => hl (h.2 s HM.out)
      · have HS := hide HGr.out.1
        go_wp2
        go_ret
        refine ⟨ret_bool ?_, HB.out⟩
        have h1 := hall.out
        rw [List.take_of_length_le (by have := HS.out; omega)] at h1
        unfold fitsS
        symm
        rw [decide_eq_true_eq]
        exact ⟨h0, h1⟩
  · go_enter Try.func10, Try.ntmps10
    go_wp2
    go_ret
    refine ⟨ret_bool ?_, Below.refl _ _⟩
    unfold fitsS
    simp [h0]

set_option maxHeartbeats 400000 in
theorem step_any (s : StepD) (A : Option Addr) (n c : Nat) (w : World) :
    Calls Try.prog 13 #[.agg (s.cells (.slice A n c))] w fun e w' => e = .returned (.agg (s.cells (.slice A n c))) ∧ Below w.heap.size w w' := by
  have HB : ∀ b, Hid (Below w.heap.size w ((w.alloc (.cells (s.cells (.slice A n c)) 29)).alloc (.cells b 34))) := fun b => ((Below.refl _ _).alloc (Nat.le_refl _) _).alloc (by simp) _
  unfold StepD.cells at HB ⊢
  go_enter Try.func13, Try.ntmps13
  go_wp2
  refine bodyPost_ret (v := .agg #[.int .i64 s.what, .int .i64 s.which, .int .i64 s.index, .int .i64 s.bit, .int .i64 s.n, .int .i64 s.key, .int .i64 s.value, .slice A n c]) ?_ rfl ?_
  · simp [results, Try.f13, go_sem]
  · exact ⟨rfl, (HB _).out⟩
end Go.Proofs.Ytammpllfmbmdmaa
