/- How many values the walks come to. No condition. -/
import Derived.Test.YtjekaagjgamfkaaDoorPv
import Derived.Test.YtjekaagjgamfkaaDoorKy
namespace Go.Proofs.YtjekaagjgamfkaaDoor
open Go.RowKit T
open Go.Op (bytesLess)

theorem pfx_len {s : St} {root : Nat} (h : Inv s root) (str : T.Bs) : (pfx s (str.length + 1) root str).length ≤ str.length + 1 := by
  obtain ⟨d0, hd0, hp0⟩ := h.root
  have hs := pfx_sorted h (str.length + 1) root d0 str hd0 (Nat.lt_succ_self _)
  have hn : ((pfx s (str.length + 1) root str).map (fun k => (key s k).length)).Nodup := by
    rw [List.nodup_iff_pairwise_ne, List.pairwise_map]
    exact hs.imp (fun h => Nat.ne_of_lt h)
  have hsub : ∀ x ∈ (pfx s (str.length + 1) root str).map (fun k => (key s k).length), x ∈ List.range (str.length + 1) := by
    intro x hx
    obtain ⟨k, hk, rfl⟩ := List.mem_map.1 hx
    obtain ⟨q, m, hm, hq⟩ := (pfx_mem h (str.length + 1) root d0 str k hd0 (Nat.lt_succ_self _)).1 hk
    rw [List.mem_range, key_of hm, hp0, List.nil_append]
    have := hq.length_le
    show q.length < _
    omega
  have := hn.length_le_of_subset hsub
  simpa using this

theorem bl_irrefl : ∀ a : T.Bs, bytesLess a a = false
  | [] => rfl
  | x :: a => by
    show (decide (x < x) || (x == x && bytesLess a a)) = false
    rw [bl_irrefl a]
    simp

theorem vals_key {s : St} {root M : Nat} {ks : List T.Bs} (h : Inv s root) (hb : Bnd s M) (hk : Keyed s ks) : ((vals s (M + 1) root).map (key s)).Nodup ∧ ∀ p, p ∈ (vals s (M + 1) root).map (key s) ↔ p ∈ ks := by
  obtain ⟨d0, hd0, hp0⟩ := h.root
  have hM : ∀ b d, s.D b = some d → d.path.length ≤ M := fun b d hd => (hb.node b d hd).1
  have hmem := fun k => vals_mem h hM (M + 1) root d0 k hd0 (by omega)
  refine ⟨?_, fun p => ⟨fun hp => ?_, fun hp => ?_⟩⟩
  · rw [List.nodup_iff_pairwise_ne, List.pairwise_map]
    refine (vals_sorted h hM (M + 1) root d0 hd0 (by omega)).imp (fun hlt e => ?_)
    rw [e, bl_irrefl] at hlt
    cases hlt
  · obtain ⟨k, hk1, rfl⟩ := List.mem_map.1 hp
    obtain ⟨q, m, hm⟩ := (hmem k).1 hk1
    rw [key_of hm]
    exact (hk.num _ _ _ hm).1
  · obtain ⟨k, m, hm⟩ := hk.has p hp
    refine List.mem_map.2 ⟨k, (hmem k).2 ⟨p, m, by rw [hp0, List.nil_append]; exact hm⟩, key_of hm⟩
theorem vals_len {s : St} {root M : Nat} {ks : List T.Bs} (h : Inv s root) (hb : Bnd s M) (hk : Keyed s ks) : (vals s (M + 1) root).length ≤ ks.length := by
  obtain ⟨h1, h2⟩ := vals_key h hb hk
  have := h1.length_le_of_subset (fun p hp => (h2 p).1 hp)
  simpa using this
end Go.Proofs.YtjekaagjgamfkaaDoor
