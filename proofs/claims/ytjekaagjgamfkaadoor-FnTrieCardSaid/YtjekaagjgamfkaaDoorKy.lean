/- The numbers at the keys of a trie: a number is set; what all Inserts of some keys leave. No condition. -/
import Derived.Test.YtjekaagjgamfkaaDoorIn
import Derived.Test.YtjekaagjgamfkaaDoorPf
namespace Go.Proofs.YtjekaagjgamfkaaDoor
open Go.RowKit T

section
variable {s : St} {root k M : Nat} {p : T.Bs} {n m : Int}
theorem T.Inv.setVal (h : Inv s root) (hk : s.V k = some (p, n)) (m : Int) : Inv ⟨s.D, T.upd s.V k (p, m)⟩ root := by
  have hV : ∀ x q y, s.V x = some (q, y) → ∃ y', T.upd s.V k (p, m) x = some (q, y') := fun x q y hx => by
    by_cases e : x = k
    · subst e
      rw [hk] at hx
      cases hx
      exact ⟨m, upd_same _ _ _⟩
    · exact ⟨y, by rw [upd_ne _ _ e]; exact hx⟩
  have hV2 : ∀ x q y, T.upd s.V k (p, m) x = some (q, y) → ∃ y', s.V x = some (q, y') := fun x q y hx => by
    rcases upd_some hx with ⟨rfl, e⟩ | ⟨_, hx⟩
    · cases e; exact ⟨n, hk⟩
    · exact ⟨y, hx⟩
  refine ⟨h.root, h.lab, h.sort, h.tgN, fun b d e k' h1 h2 h3 => ?_, fun b d k' h1 h2 => ?_, fun b d hb x q hx hq => ?_, fun k1 k2 q n1 n2 h1 h2 => ?_⟩
  · obtain ⟨y, hy⟩ := h.tgL b d e k' h1 h2 h3
    exact hV _ _ _ hy
  · obtain ⟨y, hy⟩ := h.chi b d k' h1 h2
    exact hV _ _ _ hy
  · refine h.cmp b d hb x q ?_ hq
    cases x with
    | node b' => exact hx
    | leaf k' =>
      obtain ⟨y, hy⟩ := hx
      exact hV2 _ _ _ hy
  · obtain ⟨y1, hy1⟩ := hV2 _ _ _ h1
    obtain ⟨y2, hy2⟩ := hV2 _ _ _ h2
    exact h.keyU k1 k2 q y1 y2 hy1 hy2
theorem T.Bnd.setVal (h : Bnd s M) (hk : s.V k = some (p, n)) (m : Int) : Bnd ⟨s.D, T.upd s.V k (p, m)⟩ M :=
  ⟨h.node, fun x q y hx => by
    rcases upd_some hx with ⟨rfl, e⟩ | ⟨_, hx⟩
    · cases e; exact h.leaf _ _ _ hk
    · exact h.leaf x q y hx⟩
theorem Mem.setVal {w : World} {B : Nat} {R : Nat → Value} (h : Mem w B s R) (hk : s.V k = some (p, n)) (m : Int) : Mem (w.setCell ⟨k, 0, none⟩ (.int .i64 m)) B ⟨s.D, T.upd s.V k (p, m)⟩ R := by
  have hkb := h.leaf k _ hk
  have hc : Chg (fun i => i = k) w (w.setCell ⟨k, 0, none⟩ (.int .i64 m)) := (Chg.refl (fun i => i = k) w).setCell (p := ⟨k, 0, none⟩) (fun _ => rfl) _
  refine ⟨fun b d hb => (h.node b d hb).chg hc (fun e => (h.node b d hb).ne_ hkb (by decide) e), fun b d hb => own_chg (h.row b d hb) hc (fun g hg e => ?_), h.nb, fun x y hx => ?_, fun x y hx => ?_, h.apart⟩
  · obtain ⟨cs, hcs⟩ := own_blk (h.row b d hb) hg
    exact hcs.ne_ hkb (by decide) e
  · rcases upd_some hx with ⟨rfl, rfl⟩ | ⟨hne, hx⟩
    · exact hkb.set_ 0 _
    · exact (h.leaf x y hx).chg hc hne
  · rcases upd_some hx with ⟨rfl, rfl⟩ | ⟨_, hx⟩
    · exact h.lb _ _ hk
    · exact h.lb x y hx
end

/-- Each key has its first number, from 1 on. -/
structure Keyed (s : St) (l : List T.Bs) : Prop where
  num : ∀ k p n, s.V k = some (p, n) → p ∈ l ∧ n = (l.idxOf p : Int) + 1
  has : ∀ p ∈ l, ∃ k n, s.V k = some (p, n)

theorem Keyed.old {s s' : St} {l : List T.Bs} {K : T.Bs} {k : Nat} {n : Int} (h : Keyed s l) (hV : s'.V = s.V) (hk : s'.V k = some (K, n)) : Keyed s' (l ++ [K]) ∧ n ≠ 0 := by
  rw [hV] at hk
  obtain ⟨h1, h2⟩ := h.num k K n hk
  refine ⟨⟨fun k' p m hp => ?_, fun p hp => ?_⟩, by omega⟩
  · rw [hV] at hp
    obtain ⟨h3, h4⟩ := h.num k' p m hp
    exact ⟨List.mem_append_left _ h3, by rw [h4, List.idxOf_append, if_pos h3]⟩
  · rw [hV]
    rcases List.mem_append.1 hp with hp | hp
    · exact h.has p hp
    · rw [List.mem_singleton.1 hp]; exact ⟨k, n, hk⟩
theorem Keyed.new {s : St} {D' : Nat → Option Nd} {l : List T.Bs} {K : T.Bs} {k : Nat} (h : Keyed s l) (hkn : s.V k = none) (hno : ∀ k' n', s.V k' ≠ some (K, n')) (m : Int) (hm : m = (l.length : Int) + 1) : Keyed ⟨D', T.upd (T.upd s.V k (K, 0)) k (K, m)⟩ (l ++ [K]) := by
  have hKl : K ∉ l := fun hK => by
    obtain ⟨k', n', h1⟩ := h.has K hK
    exact hno k' n' h1
  refine ⟨fun k' p n hp => ?_, fun p hp => ?_⟩
  · rcases upd_some hp with ⟨rfl, e⟩ | ⟨hne, hp⟩
    · cases e
      refine ⟨by simp, ?_⟩
      rw [List.idxOf_append, if_neg hKl, hm]
      simp
    · rw [upd_ne _ _ hne] at hp
      obtain ⟨h3, h4⟩ := h.num k' p n hp
      exact ⟨List.mem_append_left _ h3, by rw [h4, List.idxOf_append, if_pos h3]⟩
  · rcases List.mem_append.1 hp with hp | hp
    · obtain ⟨k', n', h1⟩ := h.has p hp
      have e : k' ≠ k := fun e => by rw [e, hkn] at h1; cases h1
      exact ⟨k', n', by
        show T.upd (T.upd s.V k (K, 0)) k (K, m) k' = _
        rw [upd_ne _ _ e, upd_ne _ _ e]; exact h1⟩
    · rw [List.mem_singleton.1 hp]
      exact ⟨k, m, upd_same _ _ _⟩
end Go.Proofs.YtjekaagjgamfkaaDoor
