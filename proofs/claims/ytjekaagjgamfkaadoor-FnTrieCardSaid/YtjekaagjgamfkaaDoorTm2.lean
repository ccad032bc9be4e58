/- What changes of memory leave of the trie. No condition. -/
import Derived.Test.YtjekaagjgamfkaaDoorTm
namespace Go.Proofs.YtjekaagjgamfkaaDoor
open Go.RowKit T

section
variable {w w' : World} {B b : Nat} {s : St} {R : Nat → Value} {d d' : Nd} {v' : Value}

/-- One node's row, or its two cells, have changed. -/
theorem Mem.change (h : Mem w B s R) (hd : s.D b = some d) (hc : Chg (fun g => g = b ∨ (R b).ownBlock = some g) w w') (hb : Blk w' b 44 #[v', pv d'.child]) (hr : w'.ownsRow B 64 3 v' d'.es.length (edf d'.es))
    (ho : v'.ownBlock = (R b).ownBlock ∨ ∃ g, v'.ownBlock = some g ∧ w.heap.size ≤ g) : Mem w' B ⟨upd s.D b d', s.V⟩ (fun x => if x = b then v' else R x) := by
  have hnb := h.node b d hd
  have hrow : ∀ x dx g, s.D x = some dx → (R x).ownBlock = some g → g < w.heap.size := fun x dx g hx hg => by
    obtain ⟨cs, hcs⟩ := own_blk (h.row x dx hx) hg
    exact hcs.lt
  refine ⟨fun x dx hx => ?_, fun x dx hx => ?_, fun x dx hx => ?_, fun k x hk => ?_, h.lb, fun x dx y dy g hx hy h1 h2 => ?_⟩
  · rcases upd_some hx with ⟨rfl, rfl⟩ | ⟨hne, hx⟩
    · simpa using hb
    · simp only [if_neg hne]
      refine (h.node x dx hx).chg hc ?_
      rintro (e | e)
      · exact hne e
      · obtain ⟨cs, hcs⟩ := own_blk (h.row b d hd) e
        exact (h.node x dx hx).ne_ hcs (by decide) rfl
  · rcases upd_some hx with ⟨rfl, rfl⟩ | ⟨hne, hx⟩
    · simpa using hr
    · simp only [if_neg hne]
      refine own_chg (h.row x dx hx) hc (fun g hg => ?_)
      rintro (e | e)
      · obtain ⟨cs, hcs⟩ := own_blk (h.row x dx hx) hg
        rw [e] at hcs
        exact hcs.ne_ hnb (by decide) rfl
      · exact hne (h.apart x dx b d g hx hd hg e)
  · rcases upd_some hx with ⟨rfl, rfl⟩ | ⟨hne, hx⟩
    · exact h.nb _ d hd
    · exact h.nb x dx hx
  · refine (h.leaf k x hk).chg hc ?_
    rintro (e | e)
    · exact (h.leaf k x hk).ne_ (e ▸ hnb) (by decide) rfl
    · obtain ⟨cs, hcs⟩ := own_blk (h.row b d hd) e
      exact (h.leaf k x hk).ne_ hcs (by decide) rfl
  · rcases upd_some hx with ⟨e1, _⟩ | ⟨n1, hx⟩ <;> rcases upd_some hy with ⟨e2, _⟩ | ⟨n2, hy⟩
    · rw [e1, e2]
    · simp only [if_pos e1, if_neg n2] at h1 h2
      rcases ho with e | ⟨g', e, hge⟩
      · rw [e] at h1
        exact absurd (h.apart y dy b d g hy hd h2 h1) n2
      · rw [e] at h1
        injection h1 with h1
        have := hrow y dy g hy h2
        omega
    · simp only [if_neg n1, if_pos e2] at h1 h2
      rcases ho with e | ⟨g', e, hge⟩
      · rw [e] at h2
        exact absurd (h.apart x dx b d g hx hd h1 h2) n1
      · rw [e] at h2
        injection h2 with h2
        have := hrow x dx g hx h1
        omega
    · simp only [if_neg n1, if_neg n2] at h1 h2
      exact h.apart x dx y dy g hx hy h1 h2

/-- A new value. -/
theorem Mem.newLeaf (h : Mem w B s R) {k : Nat} {p : T.Bs} (hk : Blk w k 3 #[.int .i64 0]) (hB : B ≤ k) : Mem w B ⟨s.D, upd s.V k (p, 0)⟩ R := by
  refine ⟨h.node, h.row, h.nb, fun x y hx => ?_, fun x y hx => ?_, h.apart⟩
  · rcases upd_some hx with ⟨rfl, rfl⟩ | ⟨_, hx⟩
    · exact hk
    · exact h.leaf x y hx
  · rcases upd_some hx with ⟨rfl, rfl⟩ | ⟨_, hx⟩
    · exact hB
    · exact h.lb x y hx

/-- A new node. -/
theorem Mem.newNode (h : Mem w B s R) {nb : Nat} {dn : Nd} (hn : Blk w nb 44 #[v', pv dn.child]) (hr : w.ownsRow B 64 3 v' dn.es.length (edf dn.es)) (hB : B ≤ nb) (hno : s.D nb = none) (hap : ∀ x dx g, s.D x = some dx → (R x).ownBlock = some g → v'.ownBlock ≠ some g) : Mem w B ⟨upd s.D nb dn, s.V⟩ (fun x => if x = nb then v' else R x) := by
  refine ⟨fun x dx hx => ?_, fun x dx hx => ?_, fun x dx hx => ?_, h.leaf, h.lb, fun x dx y dy g hx hy h1 h2 => ?_⟩
  · rcases upd_some hx with ⟨rfl, rfl⟩ | ⟨hne, hx⟩
    · simpa using hn
    · simp only [if_neg hne]; exact h.node x dx hx
  · rcases upd_some hx with ⟨rfl, rfl⟩ | ⟨hne, hx⟩
    · simpa using hr
    · simp only [if_neg hne]; exact h.row x dx hx
  · rcases upd_some hx with ⟨rfl, rfl⟩ | ⟨hne, hx⟩
    · exact hB
    · exact h.nb x dx hx
  · rcases upd_some hx with ⟨e1, _⟩ | ⟨n1, hx⟩ <;> rcases upd_some hy with ⟨e2, _⟩ | ⟨n2, hy⟩
    · rw [e1, e2]
    · simp only [if_pos e1, if_neg n2] at h1 h2
      exact absurd h1 (hap y dy g hy h2)
    · simp only [if_neg n1, if_pos e2] at h1 h2
      exact absurd h2 (hap x dx g hx h1)
    · simp only [if_neg n1, if_neg n2] at h1 h2
      exact h.apart x dx y dy g hx hy h1 h2

theorem Mem.rowLt (h : Mem w B s R) {x : Nat} {dx : Nd} {g : Nat} (hx : s.D x = some dx) (hg : (R x).ownBlock = some g) : g < w.heap.size := by
  obtain ⟨cs, hcs⟩ := own_blk (h.row x dx hx) hg
  exact hcs.lt
theorem Mem.noNode (h : Mem w B s R) {x : Nat} (hx : w.heap.size ≤ x) : s.D x = none := by
  cases e : s.D x with
  | none => rfl
  | some d => have := (h.node x d e).lt; omega
theorem Mem.noLeaf (h : Mem w B s R) {x : Nat} (hx : w.heap.size ≤ x) : s.V x = none := by
  cases e : s.V x with
  | none => rfl
  | some d => have := (h.leaf x d e).lt; omega
end

theorem edf_set : ∀ {es : List Ed} {i : Nat} {e : Ed}, i < es.length → edf (es.set i e) = (((edf es).set (i * 3) (.string (S e.lab))).set (i * 3 + 1) (pv e.tg.nodeP)).set (i * 3 + 2) (pv e.tg.leafP)
  | [], _, _, h => absurd h (Nat.not_lt_zero _)
  | a :: es, 0, e, _ => by simp [edf, edc]
  | a :: es, i + 1, e, h => by
    rw [List.set_cons_succ, edf_cons, edf_set (by simpa using h), edf_cons]
    rw [show (i + 1) * 3 + 2 = 3 + (i * 3 + 2) by omega, show (i + 1) * 3 + 1 = 3 + (i * 3 + 1) by omega, show (i + 1) * 3 = 3 + i * 3 by omega]
    have hl : (edc a).length = 3 := rfl
    rw [List.set_append_right _ _ (by omega), List.set_append_right _ _ (by omega), List.set_append_right _ _ (by omega), hl]
    rw [show 3 + i * 3 - 3 = i * 3 by omega, show 3 + (i * 3 + 1) - 3 = i * 3 + 1 by omega, show 3 + (i * 3 + 2) - 3 = i * 3 + 2 by omega]

/-- A store of a whole edge into a row. -/
theorem own_setEd {w : World} {B g n c i : Nat} {es : List Ed} {e : Ed} (h : w.ownsRow B 64 3 (.slice (some ⟨g, 0, none⟩) n c) n (edf es)) (hi : i < es.length) :
    (((w.setCell ⟨g, i * 3, none⟩ (.string (S e.lab))).setCell ⟨g, i * 3 + 1, none⟩ (pv e.tg.nodeP)).setCell ⟨g, i * 3 + 2, none⟩ (pv e.tg.leafP)).ownsRow B 64 3 (.slice (some ⟨g, 0, none⟩) n c) n (edf (es.set i e)) := by
  rw [edf_set hi]
  exact (((h.stored _ _).1.stored _ _).1.stored _ _).1
end Go.Proofs.YtjekaagjgamfkaaDoor
