/- The state of a walk through a graph, and what each step leaves of it. -/
import Derived.Test.YtndkjjfnlpkigaaQueue
import Derived.Test.YtndkjjfnlpkigaaWf
import Derived.Test.YtndkjjfnlpkigaaOrd
namespace Go.Proofs.Ytndkjjfnlpkigaa
open Go.RowKit

theorem IMap.ne_blk {w : World} {M k : Nat} {L : List (Int × Value)} {t : TypeId} {cs : Array Value} (h : IMap w M L) (hb : Blk w k t cs) : k ≠ M := by
  rintro rfl
  obtain ⟨es, p, hh, _⟩ := h
  have hb' : w.heap[k]? = some (.cells cs t (0, 0)) := hb
  rw [hh] at hb'
  cases hb'
theorem Marks.ne_blk {w : World} {M k : Nat} {S : List Int} {t : TypeId} {cs : Array Value} (h : Marks w M S) (hb : Blk w k t cs) : k ≠ M := by
  obtain ⟨L, hL, _⟩ := h
  exact hL.ne_blk hb
theorem Marks.chg {w w' : World} {M : Nat} {S : List Int} {Sx : Nat → Prop} (h : Marks w M S) (hc : Chg Sx w w') (hM : ¬ Sx M) : Marks w' M S := by
  obtain ⟨L, hL, hs⟩ := h
  exact ⟨L, hL.chg hc hM, hs⟩
theorem Marks.lt {w : World} {M : Nat} {S : List Int} (h : Marks w M S) : M < w.heap.size := by
  obtain ⟨L, hL, _⟩ := h
  exact hL.lt
theorem Marks.same {w : World} {M : Nat} {S S' : List Int} (h : Marks w M S) (hs : ∀ x, x ∈ S ↔ x ∈ S') : Marks w M S' := by
  obtain ⟨L, hL, h2⟩ := h
  refine ⟨L, hL, fun x => ?_⟩
  rw [h2 x]
  by_cases hx : x ∈ S
  · rw [if_pos hx, if_pos ((hs x).1 hx)]
  · rw [if_neg hx, if_neg (fun h => hx ((hs x).2 h))]

/-- What a kind of queue must offer. -/
structure QLike (Qu : World → Nat → Nat → List Value → Prop) : Prop where
  ty : ∀ w B L xs, Qu w B L xs → B ≤ L ∧ ∃ t cs, Blk w L t cs ∧ t ≠ 43 ∧ t ≠ 26 ∧ t ≠ 3 ∧ t ≠ 44
  chg : ∀ w w' B L xs (S : Nat → Prop), Qu w B L xs → Chg S w w' → (∀ b cs, Blk w b 69 cs → ¬ S b) → ¬ S L → Qu w' B L xs

theorem lifo_like : QLike Lifo := by
  constructor
  · intro w B L xs h
    obtain ⟨p, ys, hb, _, _, hBL, _⟩ := h
    exact ⟨hBL, 71, _, hb, by decide, by decide, by decide, by decide⟩
  · exact fun w w' B L xs S h hc h1 h2 => h.chg hc h1 h2
theorem fifo_like : QLike Fifo := by
  constructor
  · intro w B L xs h
    obtain ⟨p, bk, ys, hb, _, _, hBL, _⟩ := h
    exact ⟨hBL, 67, _, hb, by decide, by decide, by decide, by decide⟩
  · exact fun w w' B L xs S h hc h1 h2 => h.chg hc h1 h2

/-- The fixed parts of a walk: blocks of queue, graph, map, order and goal, the edges' slice. -/
structure WFix where
  (B L gb M O T kk c : Nat)
  A : Option Addr
  K : Nat → Prop
  G : List (List Int)
  to : Int
  hK : ∀ i, K i → i < B
  hT : T < B
  hM : B ≤ M

/-- The state of a walk. -/
structure WI (Qu : World → Nat → Nat → List Value → Prop) (f : WFix) (w0 wr : World) (S ord : List Int) (q : List Value) : Prop where
  b : Blk wr f.gb 43 #[.slice f.A f.kk f.c, .map (some f.M)]
  m : Marks wr f.M S
  o : OrderVar wr f.B f.O ord
  q : Qu wr f.B f.L q
  c : Chg (f.B ≤ ·) w0 wr
  g : GrIn wr f.K f.A f.kk f.G
  t : wr.cell? ⟨f.T, 0, none⟩ = some (.int .i64 f.to)

section
variable {Qu : World → Nat → Nat → List Value → Prop} {f : WFix} {w0 wr w' : World} {S ord : List Int} {q : List Value}
theorem WI.tlt (h : WI Qu f w0 wr S ord q) : f.T < wr.heap.size := World.block_lt_of_cell? wr _ h.t
/-- What every step leaves. -/
theorem WI.step (h : WI Qu f w0 wr S ord q) {Sx : Nat → Prop} (hc : Chg Sx wr w') (hS : ∀ i, i < wr.heap.size → Sx i → f.B ≤ i) (hg : ¬ Sx f.gb) {S' ord' : List Int} {q' : List Value}
    (hm : Marks w' f.M S') (ho : OrderVar w' f.B f.O ord') (hq : Qu w' f.B f.L q') : WI Qu f w0 w' S' ord' q' := by
  refine ⟨h.b.chg hc hg, hm, ho, hq, h.c.trans (hc.mono (T := (f.B ≤ ·)) hS) (fun _ _ h => h), h.g.chg hc (fun i hi hk hs => ?_), ?_⟩
  · have := f.hK i hk
    have := hS i hi hs
    omega
  · rw [hc.cell (p := ⟨f.T, 0, none⟩) h.tlt (fun hs => by have := hS _ h.tlt hs; have := f.hT; omega)]; exact h.t

theorem WI.queue (hl : QLike Qu) (h : WI Qu f w0 wr S ord q) (hc : Chg (fun k => k = f.L ∨ NodeAt wr f.B k) wr w') {q' : List Value} (hq : Qu w' f.B f.L q') : WI Qu f w0 w' S ord q' := by
  obtain ⟨hBL, t, cs, hb, n1, n2, n3, n4⟩ := hl.ty _ _ _ _ h.q
  refine h.step hc ?_ ?_ (h.m.chg hc ?_) (h.o.chg hc ?_ ?_) hq
  · rintro i _ (rfl | ⟨hi, _⟩)
    · exact hBL
    · exact hi
  · rintro (e | ⟨_, cs', hn⟩)
    · exact hb.ne_ h.b n1 e.symm
    · exact hn.ne_ h.b (by decide) rfl
  · rintro (e | ⟨_, cs', hn⟩)
    · exact h.m.ne_blk hb e.symm
    · exact h.m.ne_blk hn rfl
  · obtain ⟨v, hO, _⟩ := h.o
    rintro (e | ⟨_, cs', hn⟩)
    · exact hb.ne_ hO n2 e.symm
    · exact hn.ne_ hO (by decide) rfl
  · rintro k cs1 hk (e | ⟨_, cs', hn⟩)
    · exact hb.ne_ hk n3 e.symm
    · exact hn.ne_ hk (by decide) rfl

theorem WI.visit (hl : QLike Qu) (h : WI Qu f w0 wr S ord q) (hc : Chg (· = f.M) wr w') {S' : List Int} (hm : Marks w' f.M S') : WI Qu f w0 w' S' ord q := by
  obtain ⟨hBL, t, cs, hb, n1, n2, n3, n4⟩ := hl.ty _ _ _ _ h.q
  obtain ⟨v, hO, _⟩ := id h.o
  exact h.step hc (fun i _ e => by rw [e]; exact f.hM) (h.m.ne_blk h.b) hm (h.o.chg hc (h.m.ne_blk hO) (fun k cs hk => h.m.ne_blk hk)) (hl.chg _ _ _ _ _ _ h.q hc (fun b cs hb => h.m.ne_blk hb) (h.m.ne_blk hb))

theorem WI.note (hl : QLike Qu) (h : WI Qu f w0 wr S ord q) (hc : Chg (fun k => k = f.O ∨ RowAt wr f.B k) wr w') {ord' : List Int} (ho : OrderVar w' f.B f.O ord') : WI Qu f w0 w' S ord' q := by
  obtain ⟨hBL, t, cs, hb, n1, n2, n3, n4⟩ := hl.ty _ _ _ _ h.q
  obtain ⟨v, hO, _, hBO⟩ := id h.o
  refine h.step hc ?_ ?_ (h.m.chg hc ?_) ho (hl.chg _ _ _ _ _ _ h.q hc ?_ ?_)
  · rintro i _ (rfl | ⟨hi, _⟩)
    · exact hBO
    · exact hi
  · rintro (e | ⟨_, cs', hn⟩)
    · exact hO.ne_ h.b (by decide) e.symm
    · exact hn.ne_ h.b (by decide) rfl
  · rintro (e | ⟨_, cs', hn⟩)
    · exact h.m.ne_blk hO e.symm
    · exact h.m.ne_blk hn rfl
  · rintro k cs1 hk (e | ⟨_, cs', hn⟩)
    · exact hk.ne_ hO (by decide) e
    · exact hk.ne_ hn (by decide) rfl
  · rintro (e | ⟨_, cs', hn⟩)
    · exact hb.ne_ hO n2 e
    · exact hb.ne_ hn n3 rfl

theorem WI.below (hl : QLike Qu) (h : WI Qu f w0 wr S ord q) (hb : Below wr.heap.size wr w') : WI Qu f w0 w' S ord q := by
  have hc : Chg (fun _ => False) wr w' := Chg.ofBelow hb _
  exact h.step hc (fun _ _ h => h.elim) id (h.m.chg hc id) (h.o.chg hc id (fun _ _ _ => id)) (hl.chg _ _ _ _ _ _ h.q hc (fun _ _ _ => id) id)

/-- A row of neighbours is left by a push. -/
theorem WI.row (hl : QLike Qu) (h : WI Qu f w0 wr S ord q) (hc : Chg (fun k => k = f.L ∨ NodeAt wr f.B k) wr w') {EA : Option Addr} {n : Nat} {xs : List Value}
    (hr : Reads wr (fun i => ∃ cs, Blk wr i 44 cs) 1 EA n xs) : Reads w' (fun i => ∃ cs, Blk w' i 44 cs) 1 EA n xs := by
  obtain ⟨hBL, t, cs, hb, n1, n2, n3, n4⟩ := hl.ty _ _ _ _ h.q
  have hn : ∀ i, (∃ cs, Blk wr i 44 cs) → ¬ (i = f.L ∨ NodeAt wr f.B i) := by
    rintro i ⟨cs1, h1⟩ (e | ⟨_, cs', h2⟩)
    · exact hb.ne_ h1 n4 e.symm
    · exact h2.ne_ h1 (by decide) rfl
  refine ⟨hr.1, fun h0 => ?_⟩
  obtain ⟨ad, e, ⟨cs1, h1⟩, hlt, hcs⟩ := hr.2 h0
  refine ⟨ad, e, ⟨cs1, h1.chg hc (hn _ ⟨cs1, h1⟩)⟩, Nat.lt_of_lt_of_le hlt hc.size, fun j u hu => ?_⟩
  rw [hc.cell (p := ad.add j) (by rw [block_of_add]; exact hlt) (by rw [block_of_add]; exact hn _ ⟨cs1, h1⟩)]
  exact hcs j u hu
end

theorem own_reads_ty {w : World} {base : Nat} {e : TypeId} {n : Nat} {v : Value} {xs : List Value} (h : w.ownsRow base e 1 v n xs) :
    ∃ A c, v = .slice A n c ∧ Reads w (fun i => ∃ cs, Blk w i e cs) 1 A n xs := by
  obtain ⟨hl, h2⟩ := id h
  rcases h2 with ⟨rfl, rfl⟩ | ⟨g, cap, cur, rfl, _, hh, _⟩
  · exact ⟨none, 0, rfl, by simpa using hl, fun h => absurd h (by omega)⟩
  · have hr := Reads.of_own h
    refine ⟨_, _, rfl, hr.1, fun h0 => ?_⟩
    obtain ⟨ad, e, hb, hlt, hcs⟩ := hr.2 h0
    injection e with e
    subst e
    exact ⟨_, rfl, ⟨cur, hh⟩, hlt, hcs⟩

theorem tvals_take {xs : List Int} {k : Nat} {u : Value} (h : (tvals xs)[k]? = some u) : u = .iface 3 (.int .i64 (xs.getD k 0)) ∧ k < xs.length := by
  rw [List.getElem?_map] at h
  cases hx : xs[k]? with
  | none => rw [hx] at h; cases h
  | some x =>
    rw [hx] at h
    simp at h
    rw [← h]
    refine ⟨?_, (List.getElem?_eq_some_iff.1 hx).1⟩
    rw [List.getD_eq_getElem?_getD, hx]; rfl
end Go.Proofs.Ytndkjjfnlpkigaa
