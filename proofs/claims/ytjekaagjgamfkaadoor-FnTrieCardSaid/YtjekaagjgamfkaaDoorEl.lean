/- The list of entries that impl.Trie lays. No condition. -/
import Derived.Test.YtjekaagjgamfkaaDoorEm
namespace Go.Proofs.YtjekaagjgamfkaaDoor
open Go.RowKit T

theorem info36 : (Tryd.prog.info? 36).map (fun i => (i.zero, i.size, i.bytes)) = some (some (.agg #[.string ⟨#[]⟩, .int .i64 0]), 2, 24) := by kernel_rfl

theorem enc_at {s : St} : ∀ {L : List Nat} {i k : Nat}, L[i]? = some k → (enc s L)[i * 2]? = some (.string (S (key s k))) ∧ (enc s L)[i * 2 + 1]? = some (.pointer (some ⟨k, 0, none⟩))
  | q :: L, 0, k, h => by
    simp at h; subst h
    exact ⟨rfl, rfl⟩
  | q :: L, i + 1, k, h => by
    have h1 := enc_at (s := s) (L := L) (i := i) (k := k) (by simpa using h)
    have e : enc s (q :: L) = [.string (S (key s q)), .pointer (some ⟨q, 0, none⟩)] ++ enc s L := rfl
    rw [e, List.getElem?_append_right (by simp; omega), List.getElem?_append_right (by simp; omega)]
    have e1 : (i + 1) * 2 - [Value.string (S (key s q)), Value.pointer (some ⟨q, 0, none⟩)].length = i * 2 := by simp; omega
    have e2 : (i + 1) * 2 + 1 - [Value.string (S (key s q)), Value.pointer (some ⟨q, 0, none⟩)].length = i * 2 + 1 := by simp; omega
    rw [e1, e2]
    exact h1

/-- The slice with address A reads as the entries of the trie. -/
def RdK (w : World) (A : Option Addr) (s : St) (L : List Nat) : Prop :=
  ∀ i k, L[i]? = some k → ∃ g, A = some ⟨g, 0, none⟩ ∧ g < w.heap.size ∧ w.cell? ⟨g, i * 2, none⟩ = some (.string (S (key s k))) ∧ w.cell? ⟨g, i * 2 + 1, none⟩ = some (.pointer (some ⟨k, 0, none⟩))
theorem RdK.of_own {w : World} {B n c : Nat} {A : Option Addr} {s : St} {L : List Nat} (h : w.ownsRow B 57 2 (.slice A n c) n (enc s L)) : RdK w A s L := by
  intro i e he
  have hl := (List.getElem?_eq_some_iff.1 he).1
  have hn : n * 2 = L.length * 2 := by rw [← enc_len]; exact h.1.symm
  obtain ⟨g, cap, hv, _, hlt⟩ := h.form (by omega)
  have hA : A = some ⟨g, 0, none⟩ := by injection hv
  subst hA
  have hc := h.cells (g := g) rfl
  have e0 := hc _ _ (enc_at he).1
  have e1 := hc _ _ (enc_at he).2
  rw [add_plain, Nat.zero_add] at e0 e1
  exact ⟨g, rfl, hlt, e0, e1⟩

def encN (s : St) (ks : List Nat) : List Value := ks.flatMap (fun k => [.string (S (key s k)), .int .i64 (val s k)])
theorem encN_append (s : St) (a b : List Nat) : encN s (a ++ b) = encN s a ++ encN s b := by simp [encN]

/-- No block but fb and the rows of impl's entries has changed. -/
def Kept36 (fb : Nat) (w w' : World) : Prop := ∀ i t cs, Blk w i t cs → t ≠ 36 → i ≠ fb → Blk w' i t cs
theorem own_kept36 {fb base e size n : Nat} {w w' : World} {v : Value} {xs : List Value} (h : w.ownsRow base e size v n xs) (hk : Kept36 fb w w') (he : e ≠ 36) (hf : v.ownBlock ≠ some fb) : w'.ownsRow base e size v n xs := by
  obtain ⟨hl, h2⟩ := h
  refine ⟨hl, ?_⟩
  rcases h2 with h2 | ⟨g, cap, cur, rfl, hb, hh, r⟩
  · exact .inl h2
  · exact .inr ⟨g, cap, cur, rfl, hb, hk g e cur hh he (fun e1 => hf (by rw [← e1]; rfl)), r⟩
theorem own_kept57 {base e size n : Nat} {w w' : World} {v : Value} {xs : List Value} (h : w.ownsRow base e size v n xs) (hk : Kept57 w w') (he : e ≠ 57) : w'.ownsRow base e size v n xs := by
  obtain ⟨hl, h2⟩ := h
  refine ⟨hl, ?_⟩
  rcases h2 with h2 | ⟨g, cap, cur, rfl, hb, hh, r⟩
  · exact .inl h2
  · exact .inr ⟨g, cap, cur, rfl, hb, hk g e cur hh he, r⟩

/-- How the list of entries stands. -/
structure ElSt (T fb : Nat) (w14 wr : World) (F : Value → Array Value) (s : St) (done : List Nat) (ve : Value) : Prop where
  fbk : Blk wr fb 27 (F ve)
  own : wr.ownsRow T 36 2 ve done.length (encN s done)
  kept : Kept36 fb w14 wr
  bel : Below T w14 wr
  le : T ≤ fb

theorem ElSt.later {T fb : Nat} {w14 wr w' : World} {F : Value → Array Value} {s : St} {done : List Nat} {ve : Value} (h : ElSt T fb w14 wr F s done ve) (hb : Below wr.heap.size wr w') : ElSt T fb w14 w' F s done ve :=
  ⟨h.fbk.below hb h.fbk.lt, own_chg h.own (Chg.ofBelow hb (fun _ => False)) (fun _ _ => id), fun i t cs h1 h2 h3 => (h.kept i t cs h1 h2 h3).below hb (h.kept i t cs h1 h2 h3).lt, h.bel.trans (hb.mono (Nat.le_trans h.le (Nat.le_of_lt h.fbk.lt))), h.le⟩

theorem ElSt.next {T fb k n : Nat} {w14 w w1 : World} {vp vs vv : Value} {z1 z2 : Bool} {s : St} {done : List Nat} {v v1 : Value} (h : ElSt T fb w14 w (fun ve => #[vp, vs, .bool z1, .bool z2, vv, ve]) s done v) (hc : Chg (fun g => v.ownBlock = some g) w w1) (hn : n = done.length + 1) (ho : w1.ownsRow T 36 2 v1 n (encN s done ++ [.string (S (key s k)), .int .i64 (val s k)])) :
    ElSt T fb w14 (w1.setCell ⟨fb, 5, none⟩ v1) (fun ve => #[vp, vs, .bool z1, .bool z2, vv, ve]) s (done ++ [k]) v1 := by
  subst hn
  have hne : ∀ b, (∃ t cs, Blk w b t cs ∧ t ≠ 36) → ¬ v.ownBlock = some b := fun b ⟨t, cs, hb, ht⟩ e => by
    obtain ⟨cs', hcs⟩ := own_blk h.own e
    exact hcs.ne_ hb (Ne.symm ht) rfl
  have hfb := h.fbk.chg hc (hne fb ⟨_, _, h.fbk, by decide⟩)
  have hof : v1.ownBlock ≠ some fb := fun e => by
    obtain ⟨cs', hcs⟩ := own_blk ho e
    exact hcs.ne_ hfb (by decide) rfl
  refine ⟨hfb.set_ 5 v1, ?_, fun i t cs' h1 h5 h6 => ?_, ?_, h.le⟩
  · have e1 : (done ++ [k]).length = done.length + 1 := by simp
    rw [e1, encN_append]
    exact ownsRow_setCell_other ho (a := ⟨fb, 5, none⟩) hof v1
  · have h7 := h.kept i t cs' h1 h5 h6
    exact (h7.chg hc (hne i ⟨t, cs', h7, h5⟩)).far (p := ⟨fb, 5, none⟩) h6 v1
  · refine Below.setCell (p := ⟨fb, 5, none⟩) ?_ h.le v1
    exact h.bel.trans (hc.below (Nat.le_trans h.le (Nat.le_of_lt h.fbk.lt)) (fun i hi => (h.own.lt i hi).1))
end Go.Proofs.YtjekaagjgamfkaaDoor
