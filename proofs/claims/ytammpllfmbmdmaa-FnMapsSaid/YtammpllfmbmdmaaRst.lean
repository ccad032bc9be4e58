/- A row of steps of the call's own. No condition. -/
import Derived.Test.YtammpllfmbmdmaaStp
import Derived.Test.YtammpllfmbmdmaaRun2
namespace Go.Proofs.Ytammpllfmbmdmaa
open Go.RowKit

theorem info29 : (Try.prog.info? 29).map (fun i => (i.zero, i.size, i.bytes)) = some (some (.agg #[.int .i64 0, .int .i64 0, .int .i64 0, .int .i64 0, .int .i64 0, .int .i64 0, .int .i64 0, .slice none 0 0]), 8, 80) := by kernel_rfl

/-- The cells behind an address, as they stand. -/
def cellsOf (w : World) (ad : Addr) (m : Nat) : List Value := (List.range m).map (fun j => (w.cell? (ad.add j)).getD undef)

theorem cellsOf_len (w : World) (ad : Addr) (m : Nat) : (cellsOf w ad m).length = m := by simp [cellsOf]

theorem cellsOf_at {w : World} {ad : Addr} {m j : Nat} (hj : j < m) : (cellsOf w ad m)[j]? = some ((w.cell? (ad.add j)).getD undef) := by
  simp [cellsOf, hj]

theorem add_pos (a : Addr) {q : Nat} (h : 0 < q) : a.add q = ⟨a.block, a.off + q, none⟩ := by
  unfold Addr.add
  rw [if_neg (by omega)]

/-- Each cell of a step, by its number. -/
theorem StepAt.at_ {w : World} {K : Nat → Prop} {ad : Addr} {i : Nat} {s : StepD} {A : Option Addr} {c : Nat} (h : StepAt w K (ad.add (i * 8)) s A c) {q : Nat} (hq : q < 8) :
    w.cell? (ad.add (i * 8 + q)) = (s.cells (.slice A s.list.length c))[q]? ∧ ∃ u, (s.cells (.slice A s.list.length c))[q]? = some u ∧ u.oneCell' = true := by
  have e : ∀ q, ad.add (i * 8 + q) = (ad.add (i * 8)).add q := fun q => (add_of_add ad (i * 8) q).symm
  have e2 : ∀ q, 0 < q → (ad.add (i * 8)).add q = ⟨(ad.add (i * 8)).block, (ad.add (i * 8)).off + q, none⟩ := fun q hq0 => add_pos _ hq0
  have h0 : (ad.add (i * 8)).add 0 = ad.add (i * 8) := by rw [add_of_add]; rfl
  have : q = 0 ∨ q = 1 ∨ q = 2 ∨ q = 3 ∨ q = 4 ∨ q = 5 ∨ q = 6 ∨ q = 7 := by omega
  rw [e]
  rcases this with rfl | rfl | rfl | rfl | rfl | rfl | rfl | rfl
  · rw [h0]; exact ⟨h.c0, _, rfl, rfl⟩
  · rw [e2 1 (by omega)]; exact ⟨h.c1, _, rfl, rfl⟩
  · rw [e2 2 (by omega)]; exact ⟨h.c2, _, rfl, rfl⟩
  · rw [e2 3 (by omega)]; exact ⟨h.c3, _, rfl, rfl⟩
  · rw [e2 4 (by omega)]; exact ⟨h.c4, _, rfl, rfl⟩
  · rw [e2 5 (by omega)]; exact ⟨h.c5, _, rfl, rfl⟩
  · rw [e2 6 (by omega)]; exact ⟨h.c6, _, rfl, rfl⟩
  · rw [e2 7 (by omega)]; exact ⟨h.c7, _, rfl, rfl⟩

theorem StepsIn.news {w : World} {K : Nat → Prop} {ad : Addr} {k : Nat} {S : List StepD} (h : StepsIn w K (some ad) k S) {j : Nat} (hj : j < k * 8) : ∃ u, w.cell? (ad.add j) = some u ∧ u.oneCell' = true := by
  obtain ⟨ad', s, LA, lc, e, _, hst⟩ := h.2 (j / 8) (by omega)
  cases e
  obtain ⟨h1, u, h2, h3⟩ := hst.at_ (q := j % 8) (by omega)
  rw [show j / 8 * 8 + j % 8 = j by omega, h2] at h1
  exact ⟨u, h1, h3⟩

/-- A row of the call's own holds steps. -/
theorem row_steps {w : World} {base n c : Nat} {A : Option Addr} {S : List StepD} {xs : List Value} (ho : w.ownsRow base 29 8 (.slice A n c) n xs) (hn : S.length = n)
    (hx : ∀ i s, S[i]? = some s → ∃ LA lc, SliceIs w (fun _ => True) LA s.list.length lc s.list ∧ ∀ q, q < 8 → xs[i * 8 + q]? = (s.cells (.slice LA s.list.length lc))[q]?) : StepsIn w (fun _ => True) A n S := by
  refine ⟨hn, fun i hi => ?_⟩
  rcases ho.2 with ⟨h0, h1⟩ | ⟨g, cap, cur, hv, _, hg, _⟩
  · omega
  · injection hv with hA _ _
    subst hA
    have hs : S[i]? = some S[i] := List.getElem?_eq_getElem (by omega)
    obtain ⟨LA, lc, hsl, hq⟩ := hx i _ hs
    have hc := ho.cells (g := g) rfl
    have each : ∀ q, q < 8 → w.cell? ⟨g, i * 8 + q, none⟩ = (S[i].cells (.slice LA S[i].list.length lc))[q]? := fun q hq8 => by
      have h1 := hq q hq8
      obtain ⟨u, hu⟩ : ∃ u, (S[i].cells (.slice LA S[i].list.length lc))[q]? = some u := ⟨_, Array.getElem?_eq_getElem (xs := S[i].cells (.slice LA S[i].list.length lc)) (i := q) hq8⟩
      rw [hu] at h1
      have h2 := hc _ _ h1
      rw [add_plain, Nat.zero_add] at h2
      rw [h2, hu]
    have hl : g < w.heap.size := (Array.getElem?_eq_some_iff.1 hg).1
    refine ⟨_, _, LA, lc, rfl, hs, ?_⟩
    rw [add_plain, Nat.zero_add]
    exact ⟨⟨trivial, hl⟩, hsl, each 0 (by omega), each 1 (by omega), each 2 (by omega), each 3 (by omega), each 4 (by omega), each 5 (by omega), each 6 (by omega), each 7 (by omega)⟩
end Go.Proofs.Ytammpllfmbmdmaa
