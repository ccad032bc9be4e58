/- The walks of NewTypedHashMap, Copy and what Copy and Update visit with. Under sizes alone. -/
import Derived.Test.YtammpllfmbmdmaaHm5
import Derived.Carry
namespace Go.Proofs.Ytammpllfmbmdmaa
open Go.RowKit
open Go.ChangeMaps (setBlock)

/-- A hash map of new blocks. -/
def HNew (md : Int) (mb : Nat) (l : List (Int × Int)) (B : Nat) (w' : World) (p : Nat) : Prop := ∃ F, HM md mb w' p l F ∧ ∀ i, F i → B ≤ i

set_option maxHeartbeats 1000000 in
theorem new_any (md : Int) (mb : Nat) (w : World) (h : Blk w mb 3 #[.int .i64 md]) :
    Calls Try.prog 69 #[eqF, eqF, hF mb, hF mb, .int .i64 (-1)] w fun e w' => ∃ p, e = .returned (.pointer (some ⟨p, 0, none⟩)) ∧ HNew md mb [] w.heap.size w' p ∧ Below w.heap.size w w' := by
  have hmm := @run_makeMap Try.prog
  have HB := hide h
  clear h
  go_enter Try.func69, Try.ntmps69
  go_wp2
  go_ret
  refine ⟨w.heap.size + 1, rfl, ⟨fun i => i = w.heap.size ∨ i = w.heap.size + 1, ?_, fun i hi => by omega⟩, ((Below.refl _ _).alloc (Nat.le_refl _) _).alloc (by simp) _⟩
  refine ⟨⟨w.heap.size, [], Blk.new_ _ _ _ (by simp), (IMap.new w).of_block (Below.heap_alloc _ _ _ (by simp)), Or.inl rfl, fun h => ⟨none, [], rfl, rfl, List.Perm.refl _⟩⟩, List.nodup_nil, Or.inr rfl, (HB.out.alloc _).alloc _, ?_, ?_⟩
  · rintro i (rfl | rfl) <;> simp only [World.size_alloc] <;> omega
  · have := HB.out.lt
    rintro (h | h) <;> omega

/-! ### the plain law of puts -/
def putAll (l S : List (Int × Int)) : List (Int × Int) := S.foldl (fun l q => putL l q.1 q.2) l

theorem putAll_snoc (l S : List (Int × Int)) (q : Int × Int) : putAll l (S ++ [q]) = putL (putAll l S) q.1 q.2 := by simp [putAll, List.foldl_append]

theorem len_put (l : List (Int × Int)) (k v : Int) : (putL l k v).length ≤ l.length + 1 := by
  unfold putL; split <;> simp

theorem len_putAll (S : List (Int × Int)) : ∀ l : List (Int × Int), (putAll l S).length ≤ l.length + S.length := by
  induction S with
  | nil => intro l; simp [putAll]
  | cons q S ih =>
    intro l
    have h1 := ih (putL l q.1 q.2)
    have h2 := len_put l q.1 q.2
    simp only [putAll, List.foldl_cons, List.length_cons] at h1 ⊢
    omega

theorem nodup_putAll (S : List (Int × Int)) : ∀ l : List (Int × Int), (l.map (·.1)).Nodup → ((putAll l S).map (·.1)).Nodup := by
  induction S with
  | nil => intro l h; exact h
  | cons q S ih => intro l h; exact ih _ (nodup_put q.1 q.2 h)

theorem mem_put {l : List (Int × Int)} {k v : Int} {p : Int × Int} : p ∈ putL l k v ↔ p = (k, v) ∨ (p ∈ l ∧ p.1 ≠ k) := by
  unfold putL
  split
  · rename_i hk
    rw [List.mem_map]
    constructor
    · rintro ⟨q, hq, rfl⟩
      by_cases h : q.1 = k
      · exact Or.inl (if_pos h)
      · rw [upd_ne h]; exact Or.inr ⟨hq, h⟩
    · rintro (rfl | ⟨h1, h2⟩)
      · obtain ⟨q, hq, hqk⟩ := List.mem_map.1 hk
        exact ⟨q, hq, if_pos hqk⟩
      · exact ⟨p, h1, upd_ne h2⟩
  · rename_i hk
    rw [List.mem_append, List.mem_singleton]
    constructor
    · rintro (h | h)
      · exact Or.inr ⟨h, fun e => hk (List.mem_map.2 ⟨p, h, e⟩)⟩
      · exact Or.inl h
    · rintro (h | ⟨h, _⟩)
      · exact Or.inr h
      · exact Or.inl h

theorem mem_putAll {p : Int × Int} (S : List (Int × Int)) : ∀ l : List (Int × Int), (l.map (·.1)).Nodup → (S.map (·.1)).Nodup → (p ∈ putAll l S ↔ p ∈ S ∨ (p ∈ l ∧ p.1 ∉ S.map (·.1))) := by
  induction S with
  | nil => intro l _ _; simp [putAll]
  | cons q S ih =>
    intro l hn hS
    have hS' := List.nodup_cons.1 hS
    have h1 := ih (putL l q.1 q.2) (nodup_put q.1 q.2 hn) hS'.2
    rw [mem_put] at h1
    have e1 : putAll l (q :: S) = putAll (putL l q.1 q.2) S := rfl
    rw [e1, h1, List.mem_cons, List.map_cons, List.mem_cons]
    constructor
    · rintro (h | ⟨h | ⟨h2, h3⟩, h4⟩)
      · exact Or.inl (Or.inr h)
      · exact Or.inl (Or.inl h)
      · exact Or.inr ⟨h2, fun h => h.elim h3 h4⟩
    · rintro ((h | h) | ⟨h2, h3⟩)
      · refine Or.inr ⟨Or.inl h, ?_⟩
        rw [h]; exact hS'.1
      · exact Or.inl h
      · exact Or.inr ⟨Or.inr ⟨h2, fun h => h3 (Or.inl h)⟩, fun h => h3 (Or.inr h)⟩

theorem perm_of_mem {a b : List (Int × Int)} (ha : (a.map (·.1)).Nodup) (hb : (b.map (·.1)).Nodup) (h : ∀ p, p ∈ a ↔ p ∈ b) : a.Perm b :=
  (List.perm_ext_iff_of_nodup (nodup_pairs ha) (nodup_pairs hb)).2 h

theorem putAll_perm {l S S' : List (Int × Int)} (hn : (l.map (·.1)).Nodup) (hS : (S'.map (·.1)).Nodup) (hp : S.Perm S') : (putAll l S).Perm (putAll l S') := by
  have hS2 := nodup_perm hp hS
  refine perm_of_mem (nodup_putAll S l hn) (nodup_putAll S' l hn) fun p => ?_
  rw [mem_putAll S l hn hS2, mem_putAll S' l hn hS, hp.mem_iff, (hp.map (·.1)).mem_iff]

theorem putAll_nil {S : List (Int × Int)} (hS : (S.map (·.1)).Nodup) : (putAll [] S).Perm S := by
  refine perm_of_mem (nodup_putAll S [] List.nodup_nil) hS fun p => ?_
  rw [mem_putAll S [] List.nodup_nil hS]
  simp

theorem HM.perm {md : Int} {mb p : Nat} {w : World} {l l' : List (Int × Int)} {F : Nat → Prop} (h : HM md mb w p l F) (hp : l.Perm l') : HM md mb w p l' F := by
  obtain ⟨tb, L, h1, h2, h3, h4⟩ := h.ex
  refine ⟨⟨tb, L, by rw [← hp.length_eq]; exact h1, h2, h3, fun k => ?_⟩, (hp.map (·.1)).nodup_iff.1 h.nodup, h.fp, h.mod, h.lt, h.nmb⟩
  obtain ⟨x, c, q1, q2, q3⟩ := h4 k
  exact ⟨x, c, q1, q2, q3.trans (hp.filter _)⟩

/-! ### what Copy and Update visit with -/
structure PutJ (md : Int) (mb cv p : Nat) (l0 : List (Int × Int)) (w : World) (S : List (Int × Int)) (K : Nat → Prop) : Prop where
  var : Blk w cv 97 #[.pointer (some ⟨p, 0, none⟩)]
  hm : ∃ F, HM md mb w p (putAll l0 S) F ∧ (∀ i, K i ↔ F i ∨ i = cv) ∧ ¬ F cv

/-- The visit that puts each pair into the hash map at p, of which block cv holds the pointer; there were the pairs l0. -/
def putVis (fid : Nat) (md : Int) (mb cv p : Nat) (l0 : List (Int × Int)) (hfid : ∀ (args : Array Value) (w : World), (callFunc fid args).run Try.prog w = .ok (.enter fid args) w) : Vis where
  id := fid
  caps := #[.pointer (some ⟨cv, 0, none⟩)]
  N := fun i => i = mb
  J := PutJ md mb cv p l0
  stop := fun _ => false
  keep := fun {w w' S K X} h hc hX => by
    obtain ⟨F, h1, h2, h3⟩ := h.hm
    exact ⟨h.var.chg hc (hX cv (Or.inl ((h2 cv).2 (Or.inr rfl)))), ⟨F, h1.chg hc (fun i hi => hX i (Or.inl ((h2 i).2 (Or.inl hi)))) (hX mb (Or.inr rfl)), h2, h3⟩⟩
  lt := fun {w S K} h i hi => by
    obtain ⟨F, h1, h2, h3⟩ := h.hm
    rcases hi with hi | rfl
    · rcases (h2 i).1 hi with hi | rfl
      · exact h1.lt i hi
      · exact h.var.lt
    · exact h1.mod.lt
  enters := hfid

theorem enters95 (args : Array Value) (w : World) : (callFunc 95 args).run Try.prog w = .ok (.enter 95 args) w := by
  go_simp
theorem enters97 (args : Array Value) (w : World) : (callFunc 97 args).run Try.prog w = .ok (.enter 97 args) w := by
  go_simp

theorem put_size {l0 l S : List (Int × Int)} {q : Int × Int} (hn : (S ++ [q]).Nodup) (hm : ∀ p ∈ S ++ [q], p ∈ l) : (putAll l0 S).length ≤ l0.length + l.length := by
  have h1 := len_putAll S l0
  have h2 : (S ++ [q]).length ≤ l.length := hn.length_le_of_subset (fun p hp => hm p hp)
  simp at h2
  omega

set_option maxHeartbeats 1000000 in
theorem copy1_any (md : Int) (mb cv p : Nat) (l0 l : List (Int × Int)) (w0 : World) (K0 : Nat → Prop) (hmd : okI md) (hl : l0.length + l.length ≤ 1099511627776) : (putVis 95 md mb cv p l0 enters95).Ok l w0 K0 := by
  intro S q K w hn hm _ _ hJ
  have hsz := put_size (l0 := l0) hn hm
  obtain ⟨hv, F, h1, h2, h3⟩ := hJ
  have c0 : w.cell? ⟨cv, 0, none⟩ = some (.pointer (some ⟨p, 0, none⟩)) := by rw [hv.cell]; rfl
  have HP := hide (put_any md q.1 q.2 mb p (putAll l0 S) F w h1 hmd (by omega))
  have HV := hide hv
  have H1 := hide h1
  have H2 := hide h2
  have H3 := hide h3
  clear hv h1 h2 h3 hn hm
  show Calls Try.prog 95 #[.int .i64 q.1, .int .i64 q.2, .pointer (some ⟨cv, 0, none⟩)] w _
  go_enter Try.func95, Try.ntmps95
  go_wp2_with fail
  refine HP.out.mono ?_
  rintro e w1 ⟨rfl, F', g1, g2, g3⟩
  have G1 := hide g1
  have G2 := hide g2
  have G3 := hide g3
  clear g1 g2 g3
  go_wp2
  refine bodyPost_ret (v := .bool false) ?_ rfl ?_
  · simp [results, Try.f95, go_sem]
  refine ⟨rfl, fun i => F' i ∨ i = cv, ⟨HV.out.chg G3.out H3.out, F', by rw [putAll_snoc]; exact G1.out, fun i => Iff.rfl, fun h => ?_⟩, ?_, G3.out.mono (fun i _ hi => (H2.out i).2 (Or.inl hi))⟩
  · rcases G2.out cv h with h | h
    · exact H3.out h
    · have := HV.out.lt; omega
  · rintro i (h | rfl)
    · rcases G2.out i h with h | h
      · exact Or.inl ((H2.out i).2 (Or.inl h))
      · exact Or.inr h
    · exact Or.inl ((H2.out i).2 (Or.inr rfl))

set_option maxHeartbeats 1000000 in
theorem update1_any (md : Int) (mb cv p : Nat) (l0 l : List (Int × Int)) (w0 : World) (K0 : Nat → Prop) (hmd : okI md) (hl : l0.length + l.length ≤ 1099511627776) : (putVis 97 md mb cv p l0 enters97).Ok l w0 K0 := by
  intro S q K w hn hm _ _ hJ
  have hsz := put_size (l0 := l0) hn hm
  obtain ⟨hv, F, h1, h2, h3⟩ := hJ
  have c0 : w.cell? ⟨cv, 0, none⟩ = some (.pointer (some ⟨p, 0, none⟩)) := by rw [hv.cell]; rfl
  have HP := hide (put_any md q.1 q.2 mb p (putAll l0 S) F w h1 hmd (by omega))
  have HV := hide hv
  have H1 := hide h1
  have H2 := hide h2
  have H3 := hide h3
  clear hv h1 h2 h3 hn hm
  show Calls Try.prog 97 #[.int .i64 q.1, .int .i64 q.2, .pointer (some ⟨cv, 0, none⟩)] w _
  go_enter Try.func97, Try.ntmps97
  go_wp2_with fail
  refine HP.out.mono ?_
  rintro e w1 ⟨rfl, F', g1, g2, g3⟩
  have G1 := hide g1
  have G2 := hide g2
  have G3 := hide g3
  clear g1 g2 g3
  go_wp2
  refine bodyPost_ret (v := .bool false) ?_ rfl ?_
  · simp [results, Try.f97, go_sem]
  refine ⟨rfl, fun i => F' i ∨ i = cv, ⟨HV.out.chg G3.out H3.out, F', by rw [putAll_snoc]; exact G1.out, fun i => Iff.rfl, fun h => ?_⟩, ?_, G3.out.mono (fun i _ hi => (H2.out i).2 (Or.inl hi))⟩
  · rcases G2.out cv h with h | h
    · exact H3.out h
    · have := HV.out.lt; omega
  · rintro i (h | rfl)
    · rcases G2.out i h with h | h
      · exact Or.inl ((H2.out i).2 (Or.inl h))
      · exact Or.inr h
    · exact Or.inl ((H2.out i).2 (Or.inr rfl))
end Go.Proofs.Ytammpllfmbmdmaa
