/- The trie in memory. No condition. -/
import Derived.Test.YtjekaagjgamfkaaDoorTs
import Derived.Test.YtjekaagjgamfkaaDoorTr
namespace Go.Proofs.YtjekaagjgamfkaaDoor
open Go.RowKit T

def pv : Option Nat → Value
  | none => .pointer none
  | some b => .pointer (some ⟨b, 0, none⟩)
theorem pv_none : pv none = .pointer none := rfl
theorem pv_some (b : Nat) : pv (some b) = .pointer (some ⟨b, 0, none⟩) := rfl

def T.Tg.nodeP : Tg → Option Nat
  | .node b => some b
  | .leaf _ => none
def T.Tg.leafP : Tg → Option Nat
  | .node _ => none
  | .leaf k => some k

def edc (e : Ed) : List Value := [.string (S e.lab), pv e.tg.nodeP, pv e.tg.leafP]
def edf (es : List Ed) : List Value := es.flatMap edc

theorem edf_len : ∀ es : List Ed, (edf es).length = es.length * 3
  | [] => rfl
  | e :: es => by
    have := edf_len es
    unfold edf at this ⊢
    rw [List.flatMap_cons, List.length_append, this]
    simp [edc]; omega
theorem edf_append (a b : List Ed) : edf (a ++ b) = edf a ++ edf b := by simp [edf]
theorem edf_cons (e : Ed) (b : List Ed) : edf (e :: b) = edc e ++ edf b := rfl
theorem edf_at : ∀ {es : List Ed} {i : Nat} {e : Ed}, es[i]? = some e → ∀ q, q < 3 → (edf es)[i * 3 + q]? = (edc e)[q]?
  | a :: P, 0, e, h, q, hq => by
    simp at h; subst h
    rw [edf_cons, List.getElem?_append_left (by simp [edc]; omega)]; simp
  | a :: P, i + 1, e, h, q, hq => by
    rw [edf_cons, List.getElem?_append_right (by simp [edc]; omega), show (i + 1) * 3 + q - (edc a).length = i * 3 + q by simp [edc]; omega]
    exact edf_at (by simpa using h) q hq
theorem edf_one : ∀ (es : List Ed), ∀ u ∈ edf es, u.oneCell' = true := by
  intro es u hu
  obtain ⟨e, _, he⟩ := List.mem_flatMap.1 hu
  simp [edc] at he
  rcases he with rfl | rfl | rfl
  · rfl
  · cases e.tg.nodeP <;> rfl
  · cases e.tg.leafP <;> rfl
theorem edc_one (e : Ed) : ∀ u ∈ edc e, u.oneCell' = true := fun u hu => edf_one [e] u (by rw [edf_cons]; exact List.mem_append_left _ hu)

/-- The slice with address A reads as the edges. -/
def RdE (w : World) (A : Option Addr) (es : List Ed) : Prop :=
  ∀ i e, es[i]? = some e → ∃ g, A = some ⟨g, 0, none⟩ ∧ g < w.heap.size ∧ w.cell? ⟨g, i * 3, none⟩ = some (.string (S e.lab)) ∧ w.cell? ⟨g, i * 3 + 1, none⟩ = some (pv e.tg.nodeP) ∧ w.cell? ⟨g, i * 3 + 2, none⟩ = some (pv e.tg.leafP)

theorem RdE.keep {w w' : World} {A : Option Addr} {es : List Ed} (h : RdE w A es) (hs : w.heap.size ≤ w'.heap.size) (hk : ∀ g, A = some ⟨g, 0, none⟩ → ∀ i, w'.cell? ⟨g, i, none⟩ = w.cell? ⟨g, i, none⟩) : RdE w' A es := by
  intro i e he
  obtain ⟨g, e1, h1, h2, h3, h4⟩ := h i e he
  have := hk g e1
  exact ⟨g, e1, Nat.lt_of_lt_of_le h1 hs, (this _).trans h2, (this _).trans h3, (this _).trans h4⟩
theorem RdE.below {w w' : World} {A : Option Addr} {es : List Ed} (h : RdE w A es) (hb : Below w.heap.size w w') : RdE w' A es := by
  intro i e he
  obtain ⟨g, e1, h1, h2, h3, h4⟩ := h i e he
  exact ⟨g, e1, Nat.lt_of_lt_of_le h1 hb.size, (hb.cell (p := ⟨g, i * 3, none⟩) h1).trans h2, (hb.cell (p := ⟨g, i * 3 + 1, none⟩) h1).trans h3, (hb.cell (p := ⟨g, i * 3 + 2, none⟩) h1).trans h4⟩
theorem RdE.of_own {w : World} {B n c : Nat} {A : Option Addr} {es : List Ed} (h : w.ownsRow B 64 3 (.slice A n c) n (edf es)) : RdE w A es := by
  intro i e he
  have hl := (List.getElem?_eq_some_iff.1 he).1
  have hn : n * 3 = es.length * 3 := by rw [← edf_len]; exact h.1.symm
  obtain ⟨g, cap, hv, _, hlt⟩ := h.form (by omega)
  have hA : A = some ⟨g, 0, none⟩ := by injection hv
  subst hA
  have hc := h.cells (g := g) rfl
  have e0 := hc _ _ ((edf_at he 0 (by omega)).trans rfl)
  have e1 := hc _ _ ((edf_at he 1 (by omega)).trans rfl)
  have e2 := hc _ _ ((edf_at he 2 (by omega)).trans rfl)
  rw [add_plain, Nat.zero_add] at e0 e1 e2
  exact ⟨g, rfl, hlt, e0, e1, e2⟩

/-- The graph in memory; R b is the slice of b's edges. -/
structure Mem (w : World) (B : Nat) (s : St) (R : Nat → Value) : Prop where
  node : ∀ b d, s.D b = some d → Blk w b 44 #[R b, pv d.child]
  row : ∀ b d, s.D b = some d → w.ownsRow B 64 3 (R b) d.es.length (edf d.es)
  nb : ∀ b d, s.D b = some d → B ≤ b
  leaf : ∀ k x, s.V k = some x → Blk w k 3 #[.int .i64 x.2]
  lb : ∀ k x, s.V k = some x → B ≤ k
  apart : ∀ b d b' d' g, s.D b = some d → s.D b' = some d' → (R b).ownBlock = some g → (R b').ownBlock = some g → b = b'

theorem own_blk {w : World} {base e size n : Nat} {v : Value} {xs : List Value} (h : w.ownsRow base e size v n xs) {g : Nat} (hg : v.ownBlock = some g) : ∃ cs, Blk w g e cs := by
  rcases h.2 with ⟨rfl, _⟩ | ⟨g', cap, cur, rfl, _, hh, _⟩
  · cases hg
  · have : g' = g := by simpa [Value.ownBlock] using hg
    subst this
    exact ⟨cur, hh⟩
theorem own_chg {w w' : World} {base e size n : Nat} {v : Value} {xs : List Value} {S : Nat → Prop} (h : w.ownsRow base e size v n xs) (hc : Chg S w w') (hn : ∀ g, v.ownBlock = some g → ¬ S g) : w'.ownsRow base e size v n xs := by
  obtain ⟨hl, h2⟩ := h
  refine ⟨hl, ?_⟩
  rcases h2 with h2 | ⟨g, cap, cur, rfl, hb, hh, r⟩
  · exact .inl h2
  · exact .inr ⟨g, cap, cur, rfl, hb, (show Blk w g e cur from hh).chg hc (hn g (by simp [Value.ownBlock])), r⟩
theorem own_cap {w : World} {base e size n : Nat} {v : Value} {xs : List Value} (h : w.ownsRow base e size v n xs) : ∃ A c, v = .slice A n c ∧ n ≤ c ∧ c ≤ maxLen := by
  rcases h.2 with ⟨rfl, rfl⟩ | ⟨g, cap, cur, rfl, _, _, hc, hm, _⟩
  · exact ⟨none, 0, rfl, Nat.le_refl _, by simp [maxLen]⟩
  · exact ⟨_, _, rfl, hc, hm⟩

section
variable {w w' : World} {B : Nat} {s : St} {R : Nat → Value}
theorem Mem.below (h : Mem w B s R) (hb : Below w.heap.size w w') : Mem w' B s R :=
  ⟨fun b d hd => (h.node b d hd).below hb (h.node b d hd).lt, fun b d hd => own_chg (h.row b d hd) (Chg.ofBelow hb (fun _ => False)) (fun _ _ => id), h.nb, fun k x hx => (h.leaf k x hx).below hb (h.leaf k x hx).lt, h.lb, h.apart⟩
theorem Mem.rd (h : Mem w B s R) {b : Nat} {d : Nd} (hd : s.D b = some d) : ∃ A c, R b = .slice A d.es.length c ∧ d.es.length ≤ c ∧ c ≤ maxLen ∧ RdE w A d.es := by
  obtain ⟨A, c, e, h1, h2⟩ := own_cap (h.row b d hd)
  have h3 := h.row b d hd
  rw [e] at h3
  exact ⟨A, c, e, h1, h2, RdE.of_own h3⟩
end

/-- A node has few edges. -/
theorem T.Inv.few {s : St} {root b : Nat} {d : Nd} (h : Inv s root) (hd : s.D b = some d) : d.es.length ≤ 256 := by
  have hs := h.sort b d hd
  have hlt : ∀ e ∈ d.es.map (fun e => T.hd e.lab), e < 256 := by
    intro x hx
    obtain ⟨e, _, rfl⟩ := List.mem_map.1 hx
    unfold T.hd
    exact UInt8.toNat_lt _
  have hn : (d.es.map (fun e => T.hd e.lab)).Nodup := by
    rw [List.nodup_iff_pairwise_ne, List.pairwise_map]
    exact hs.imp (fun h => Nat.ne_of_lt h)
  have := hn.length_le_of_subset (l₂ := List.range 256) (fun x hx => List.mem_range.2 (hlt x hx))
  simpa using this
end Go.Proofs.YtjekaagjgamfkaaDoor
