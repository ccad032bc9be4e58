/- The plain law of two hash maps: what the steps keep; equal maps have one hash. No condition. -/
import Derived.Test.YtammpllfmbmdmaaMok
namespace Go.Proofs.Ytammpllfmbmdmaa

/-- No key twice, and none but those of K. -/
def OkL (K : List Int) (l : List (Int × Int)) : Prop := (l.map (·.1)).Nodup ∧ ∀ k ∈ l.map (·.1), k ∈ K

theorem OkL.len {K : List Int} {l : List (Int × Int)} (h : OkL K l) : l.length ≤ K.length := by
  have := h.1.length_le_of_subset h.2
  simpa using this

theorem OkL.nil {K : List Int} : OkL K [] := ⟨List.nodup_nil, fun k hk => by cases hk⟩

theorem OkL.put {K : List Int} {l : List (Int × Int)} (h : OkL K l) {k : Int} (hk : k ∈ K) (v : Int) : OkL K (putL l k v) := by
  refine ⟨nodup_put k v h.1, fun k' hk' => ?_⟩
  obtain ⟨p, hp, rfl⟩ := List.mem_map.1 hk'
  rcases mem_put.1 hp with rfl | ⟨h1, _⟩
  · exact hk
  · exact h.2 _ (List.mem_map.2 ⟨p, h1, rfl⟩)

theorem OkL.del {K : List Int} {l : List (Int × Int)} (h : OkL K l) (k : Int) : OkL K (delL l k) := by
  refine ⟨nodup_filter _ h.1, fun k' hk' => ?_⟩
  obtain ⟨p, hp, rfl⟩ := List.mem_map.1 hk'
  exact h.2 _ (List.mem_map.2 ⟨p, (List.mem_filter.1 hp).1, rfl⟩)

theorem OkL.putAll {K : List Int} {S : List (Int × Int)} : ∀ {l : List (Int × Int)}, OkL K l → OkL K S → OkL K (putAll l S) := by
  intro l h hS
  refine ⟨nodup_putAll S l h.1, fun k hk => ?_⟩
  obtain ⟨p, hp, rfl⟩ := List.mem_map.1 hk
  rcases (mem_putAll S l h.1 hS.1).1 hp with h1 | ⟨h1, _⟩
  · exact hS.2 _ (List.mem_map.2 ⟨p, h1, rfl⟩)
  · exact h.2 _ (List.mem_map.2 ⟨p, h1, rfl⟩)

theorem stpM_ok {md : Int} {K : List Int} {c o : List (Int × Int)} {s : StepD} (hc : OkL K c) (ho : OkL K o) (hk : s.key ∈ K) : OkL K (stpM md c o s).1.1 ∧ OkL K (stpM md c o s).1.2 := by
  unfold stpM
  split
  · exact ⟨hc.put hk _, ho⟩
  split
  · exact ⟨hc, ho⟩
  split
  · exact ⟨hc.del _, ho⟩
  split
  · exact ⟨hc, ho⟩
  split
  · exact ⟨hc, hc⟩
  split
  · exact ⟨hc, ho⟩
  split
  · exact ⟨hc.putAll ho, ho⟩
  split
  · exact ⟨hc, ho⟩
  split
  · exact ⟨hc, ho⟩
  · exact ⟨hc, ho⟩

theorem stepM_ok {md : Int} {K : List Int} {x : Two} {s : StepD} (h0 : OkL K x.1) (h1 : OkL K x.2) (hk : s.key ∈ K) : OkL K (stepM md x s).1.1 ∧ OkL K (stepM md x s).1.2 := by
  unfold stepM
  split
  · exact stpM_ok h0 h1 hk
  split
  · exact ⟨(stpM_ok h1 h0 hk).2, (stpM_ok h1 h0 hk).1⟩
  · exact ⟨h0, h1⟩

theorem goodM_of {md : Int} {K : List Int} (hK : K.length ≤ 549755813888) : ∀ (S : List StepD) (x : Two), OkL K x.1 → OkL K x.2 → (∀ s ∈ S, s.key ∈ K) → goodM md x S
  | [], _, _, _, _ => trivial
  | s :: S, x, h0, h1, hk => by
    have h := stepM_ok (md := md) h0 h1 (hk s (by simp))
    exact ⟨⟨Nat.le_trans h0.len hK, Nat.le_trans h1.len hK⟩, fun _ => goodM_of hK S _ h.1 h.2 (fun s hs => hk s (by simp [hs]))⟩

/-- The maps behind the steps. -/
def endM (md : Int) : Two → List StepD → Two
  | x, [] => x
  | x, s :: S => endM md (stepM md x s).1 S

theorem endM_ok {md : Int} {K : List Int} : ∀ (S : List StepD) (x : Two), OkL K x.1 → OkL K x.2 → (∀ s ∈ S, s.key ∈ K) → OkL K (endM md x S).1 ∧ OkL K (endM md x S).2
  | [], _, h0, h1, _ => ⟨h0, h1⟩
  | s :: S, x, h0, h1, hk => by
    have h := stepM_ok (md := md) h0 h1 (hk s (by simp))
    exact endM_ok S _ h.1 h.2 (fun s hs => hk s (by simp [hs]))

theorem outsM_append (md : Int) (T : List StepD) : ∀ (S : List StepD) (x : Two), outsM md x (S ++ T) = outsM md x S ++ outsM md (endM md x S) T
  | [], _ => rfl
  | _ :: S, _ => congrArg (List.cons _) (outsM_append md T S _)

theorem outsM_len (md : Int) : ∀ (S : List StepD) (x : Two), (outsM md x S).length = S.length
  | [], _ => rfl
  | _ :: S, _ => congrArg (· + 1) (outsM_len md S _)

theorem eqA_hash {md : Int} {K : List Int} {a b : List (Int × Int)} (ha : OkL K a) (hb : OkL K b) (h : eqA a b = true) : hashL md a = hashL md b := by
  unfold eqA at h
  rw [Bool.and_eq_true, decide_eq_true_eq, Bool.not_eq_true', List.any_eq_false] at h
  obtain ⟨hl, hm⟩ := h
  have hsub : ∀ p ∈ a, p ∈ b := fun p hp => by
    have h1 := hm p hp
    have h2 : b.lookup p.1 = some p.2 := by simpa using h1
    exact (mem_lookup hb.1).1 h2
  have hper : a.Perm b := by
    refine perm_of_mem ha.1 hb.1 fun p => ⟨hsub p, fun hp => ?_⟩
    apply Classical.byContradiction
    intro hno
    have h3 : (p :: a).Nodup := List.nodup_cons.2 ⟨hno, nodup_pairs ha.1⟩
    have h4 := h3.length_le_of_subset (l₂ := b) (fun q hq => by
      rcases List.mem_cons.1 hq with rfl | hq
      · exact hp
      · exact hsub q hq)
    simp at h4
    omega
  exact hash_perm hper
end Go.Proofs.Ytammpllfmbmdmaa
