/- FnTrie, the plain law, second part: what the trie hands back is what the entries say. No condition. -/
import Derived.Test.YtjekaagjgamfkaaDoorPt
namespace Go.Proofs.YtjekaagjgamfkaaDoor
open Go.RowKit T
open Go.Op (bytesLess)

/-- No more than asked for. -/
def capL (most : Int) (l : List Int) : List Int := if most ≤ 0 then l else l.take most.toNat
def fits_ (q : Bs) (E : List (Bs × Int)) : List (Bs × Int) := E.filter (fun p => p.1 == q)
def full (E : List (Bs × Int)) (str : Bs) (n : Nat) : List (Bs × Int) := (List.range n).flatMap (fun k => fits_ (str.take k) E)

theorem capL_add (most : Int) (out : List Int) (x : Int) : (if most ≤ 0 ∨ ((capL most out).length : Int) < most then capL most out ++ [x] else capL most out) = capL most (out ++ [x]) := by
  unfold capL
  by_cases h : most ≤ 0
  · simp [h]
  · simp only [h, false_or, if_false]
    by_cases hl : out.length < most.toNat
    · rw [List.take_of_length_le (by omega), if_pos (by omega), List.take_of_length_le (by simp; omega)]
    · have h1 : (out.take most.toNat).length = most.toNat := by rw [List.length_take]; omega
      rw [if_neg (by rw [h1]; omega), List.take_append_of_le_length (by omega)]
theorem bgIn_cap (q : Bs) (most : Int) : ∀ (E : List (Bs × Int)) (out : List Int), bgIn q most (capL most out) E = capL most (out ++ (fits_ q E).map (·.2))
  | [], out => by simp [bgIn, fits_]
  | p :: E, out => by
    show bgIn q most (if p.1 = q ∧ (most ≤ 0 ∨ ((capL most out).length : Int) < most) then capL most out ++ [p.2] else capL most out) E = _
    by_cases hq : p.1 = q
    · have h1 : fits_ q (p :: E) = p :: fits_ q E := by simp [fits_, hq]
      have h2 := capL_add most out p.2
      simp only [hq, true_and]
      rw [h2, bgIn_cap q most E, h1]
      simp
    · have h1 : fits_ q (p :: E) = fits_ q E := by simp [fits_, hq]
      rw [if_neg (fun h => hq h.1), bgIn_cap q most E, h1]
theorem bg_cap (E : List (Bs × Int)) (str : Bs) (most : Int) : ∀ n, bg E str most n = capL most ((full E str n).map (·.2))
  | 0 => by simp [bg, full, capL]
  | n + 1 => by
    show bgIn (str.take n) most (bg E str most n) E = _
    rw [bg_cap E str most n, bgIn_cap]
    simp [full, List.range_succ]

theorem vist_cap (most : Int) (l : List Int) : (vist most [] l).1 = capL most l := by
  rw [vist_take (by simp; omega)]
  unfold capL
  simp

section
variable {s : St} {root M : Nat} {ks : List Bs} {E : List (Bs × Int)}
def pairs (s : St) (L : List Nat) : List (Bs × Int) := L.map (fun k => (key s k, val s k))
theorem Keyed.ent (hk : Keyed s ks) (hE : EntOk E ks) (p : Bs × Int) : p ∈ E ↔ ∃ k, s.V k = some p := by
  rw [hE.mem p]
  constructor
  · rintro ⟨h1, h2⟩
    obtain ⟨k, n, h3⟩ := hk.has p.1 h1
    have h4 := (hk.num k _ _ h3).2
    exact ⟨k, by rw [h3, h4, ← h2]⟩
  · rintro ⟨k, h⟩
    exact hk.num k p.1 p.2 h
theorem pairs_of {k : Nat} {p : Bs × Int} (h : s.V k = some p) : (key s k, val s k) = p := by rw [key_of h, val_of h]

theorem vals_ent (h : Inv s root) (hb : Bnd s M) (hk : Keyed s ks) (hE : EntOk E ks) : pairs s (vals s (M + 1) root) = E := by
  obtain ⟨d0, hd0, hp0⟩ := h.root
  have hM : ∀ b d, s.D b = some d → d.path.length ≤ M := fun b d hd => (hb.node b d hd).1
  refine pw_unique (R := fun a b : Bs × Int => bytesLess a.1 b.1 = true) (fun a b => bl_asymm a.1 b.1) _ _ ?_ hE.sort (fun p => ?_)
  · unfold pairs
    rw [List.pairwise_map]
    exact vals_sorted h hM (M + 1) root d0 hd0 (by omega)
  · rw [hk.ent hE p]
    unfold pairs
    rw [List.mem_map]
    constructor
    · rintro ⟨k, hk1, rfl⟩
      obtain ⟨q, m, h1⟩ := (vals_mem h hM (M + 1) root d0 k hd0 (by omega)).1 hk1
      exact ⟨k, by rw [pairs_of h1]; exact h1⟩
    · rintro ⟨k, h1⟩
      exact ⟨k, (vals_mem h hM (M + 1) root d0 k hd0 (by omega)).2 ⟨p.1, p.2, by rw [hp0, List.nil_append]; exact h1⟩, pairs_of h1⟩

theorem full_pw (hE : EntOk E ks) (str : Bs) : (full E str (str.length + 1)).Pairwise (fun a b => a.1.length < b.1.length) := by
  unfold full
  rw [List.pairwise_flatMap]
  refine ⟨fun k _ => ?_, ?_⟩
  · unfold fits_
    refine (hE.sort.filter _).imp_of_mem (fun {a b} ha hb hab => ?_)
    have h1 : a.1 = str.take k := by simpa using (List.mem_filter.1 ha).2
    have h2 : b.1 = str.take k := by simpa using (List.mem_filter.1 hb).2
    rw [h1, h2, bl_irrefl] at hab
    cases hab
  · refine List.pairwise_lt_range.imp_of_mem (fun {k k'} hk hk' hlt a ha b hb => ?_)
    have h1 : a.1 = str.take k := by simpa using (List.mem_filter.1 ha).2
    have h2 : b.1 = str.take k' := by simpa using (List.mem_filter.1 hb).2
    have := List.mem_range.1 hk
    have := List.mem_range.1 hk'
    rw [h1, h2, List.length_take, List.length_take]
    omega
theorem full_mem (str : Bs) (p : Bs × Int) : p ∈ full E str (str.length + 1) ↔ p ∈ E ∧ p.1 <+: str := by
  unfold full fits_
  rw [List.mem_flatMap]
  constructor
  · rintro ⟨k, _, h⟩
    obtain ⟨h1, h2⟩ := List.mem_filter.1 h
    have h2 : p.1 = str.take k := by simpa using h2
    exact ⟨h1, h2 ▸ List.take_prefix _ _⟩
  · rintro ⟨h1, h2⟩
    have h3 := h2.length_le
    exact ⟨p.1.length, List.mem_range.2 (by omega), List.mem_filter.2 ⟨h1, by simpa using List.prefix_iff_eq_take.1 h2⟩⟩

theorem pfx_ent (h : Inv s root) (hk : Keyed s ks) (hE : EntOk E ks) (str : Bs) : pairs s (pfx s (str.length + 1) root str) = full E str (str.length + 1) := by
  obtain ⟨d0, hd0, hp0⟩ := h.root
  refine pw_unique (R := fun a b : Bs × Int => a.1.length < b.1.length) (fun a b h1 h2 => by omega) _ _ ?_ (full_pw hE str) (fun p => ?_)
  · unfold pairs
    rw [List.pairwise_map]
    exact pfx_sorted h (str.length + 1) root d0 str hd0 (Nat.lt_succ_self _)
  · rw [full_mem, hk.ent hE p]
    unfold pairs
    rw [List.mem_map]
    constructor
    · rintro ⟨k, hk1, rfl⟩
      obtain ⟨q, m, h1, h2⟩ := (pfx_mem h (str.length + 1) root d0 str k hd0 (Nat.lt_succ_self _)).1 hk1
      rw [hp0, List.nil_append] at h1
      rw [pairs_of h1]
      exact ⟨⟨k, h1⟩, h2⟩
    · rintro ⟨⟨k, h1⟩, h2⟩
      exact ⟨k, (pfx_mem h (str.length + 1) root d0 str k hd0 (Nat.lt_succ_self _)).2 ⟨p.1, p.2, by rw [hp0, List.nil_append]; exact h1, h2⟩, pairs_of h1⟩

theorem map_val (L : List Nat) : L.map (val s) = (pairs s L).map (·.2) := by simp [pairs]

/-- The values at the prefixes. -/
theorem begun_is (h : Inv s root) (hk : Keyed s ks) (hE : EntOk E ks) (str : Bs) (most : Int) : (vist most [] ((pfx s (str.length + 1) root str).map (val s))).1 = bg E str most (str.length + 1) := by
  rw [vist_cap, map_val, pfx_ent h hk hE, bg_cap]
theorem begun_has (h : Inv s root) (hk : Keyed s ks) (hE : EntOk E ks) (str : Bs) : (!(pfx s (str.length + 1) root str).isEmpty) = decide (0 < (bg E str 0 (str.length + 1)).length) := by
  have h1 : (bg E str 0 (str.length + 1)).length = (pfx s (str.length + 1) root str).length := by
    rw [bg_cap, ← pfx_ent h hk hE]
    simp [capL, pairs]
  rw [h1]
  cases pfx s (str.length + 1) root str <;> simp
theorem vals_is (h : Inv s root) (hb : Bnd s M) (hk : Keyed s ks) (hE : EntOk E ks) (most : Int) : (vist most [] ((vals s (M + 1) root).map (val s))).1 = capL most (E.map (·.2)) := by
  rw [vist_cap, map_val, vals_ent h hb hk hE]
theorem ents_is (h : Inv s root) (hb : Bnd s M) (hk : Keyed s ks) (hE : EntOk E ks) : ((vals s (M + 1) root).flatMap (fun k => [Value.string (S (key s k)), .int .i64 (val s k)])) = ents E := by
  rw [← vals_ent h hb hk hE]
  unfold ents pairs
  rw [List.flatMap_map]
theorem ents_cnt (h : Inv s root) (hb : Bnd s M) (hk : Keyed s ks) (hE : EntOk E ks) : (vals s (M + 1) root).length = E.length := by
  rw [← vals_ent h hb hk hE]
  simp [pairs]
theorem EntOk.len (hE : EntOk E ks) : E.length ≤ ks.length := by
  have hn : (E.map (·.1)).Nodup := by
    rw [List.nodup_iff_pairwise_ne, List.pairwise_map]
    exact hE.sort.imp (fun hlt e => by rw [e, bl_irrefl] at hlt; cases hlt)
  have := hn.length_le_of_subset (l₂ := ks) (fun p hp => by
    obtain ⟨q, hq, rfl⟩ := List.mem_map.1 hp
    exact ((hE.mem q).1 hq).1)
  simpa using this
theorem EntOk.nums (hE : EntOk E ks) : (E.map (·.2)).Nodup := by
  rw [List.nodup_iff_pairwise_ne, List.pairwise_map]
  refine hE.sort.imp_of_mem (fun {a b} ha hb hlt e => ?_)
  obtain ⟨a1, a2⟩ := (hE.mem a).1 ha
  obtain ⟨b1, b2⟩ := (hE.mem b).1 hb
  have h1 : ks.idxOf a.1 = ks.idxOf b.1 := by rw [a2, b2] at e; omega
  have h2 : a.1 = b.1 := by
    have ha2 := List.idxOf_lt_length_iff.2 a1
    have hb2 := List.idxOf_lt_length_iff.2 b1
    rw [← List.getElem_idxOf ha2, ← List.getElem_idxOf hb2]
    simp [h1]
  rw [h2, bl_irrefl] at hlt
  cases hlt
end
end Go.Proofs.YtjekaagjgamfkaaDoor
