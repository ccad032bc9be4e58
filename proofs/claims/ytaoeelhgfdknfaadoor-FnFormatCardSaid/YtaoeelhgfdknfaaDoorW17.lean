/- spec.Parse: the plain values of its paths, and the two blocks that it makes. Printed by gen_w17.py. -/
import Derived.Test.YtaoeelhgfdknfaaDoorW16
namespace Go.Proofs.YtaoeelhgfdknfaaDoor
open Go.RowKit

/-- The two blocks of spec.Parse: the result's, still naught, and the version's. -/
def Two (w W : World) (g : Nat) (cs : Array Value) : Prop := Blk W w.heap.size 26 #[.int .i64 0, .int .i64 0, .int .i64 0, .string ⟨#[]⟩, .string ⟨#[]⟩] ∧ Blk W g 26 cs ∧ Below w.heap.size w W ∧ w.heap.size < g
variable {w W : World} {g : Nat} {cs : Array Value}
theorem Two.start (w : World) : Two w ((w.alloc (.cells #[.int .i64 0, .int .i64 0, .int .i64 0, .string ⟨#[]⟩, .string ⟨#[]⟩] 26)).alloc (.cells #[.int .i64 0, .int .i64 0, .int .i64 0, .string ⟨#[]⟩, .string ⟨#[]⟩] 26)) (w.heap.size + 1) #[.int .i64 0, .int .i64 0, .int .i64 0, .string ⟨#[]⟩, .string ⟨#[]⟩] :=
  ⟨(Blk.new _ _ _).alloc _, Blk.new_ _ _ _ (by simp), ((Below.refl _ _).alloc (Nat.le_refl _) _).alloc (by simp) _, Nat.lt_succ_self _⟩
theorem Two.put (h : Two w W g cs) (i : Nat) (u : Value) : Two w (W.setCell ⟨g, i, none⟩ u) g (cs.setIfInBounds i u) :=
  ⟨h.1.far (Nat.ne_of_lt h.2.2.2) u, h.2.1.set_ i u, ((Chg.ofBelow h.2.2.1 (fun _ => False)).setCell (p := ⟨g, i, none⟩) (fun hlt => absurd hlt (Nat.not_lt.2 (Nat.le_of_lt h.2.2.2))) u).toBelow, h.2.2.2⟩
theorem Two.below {W' : World} (h : Two w W g cs) (hb : Below W.heap.size W W') : Two w W' g cs := ⟨h.1.below hb h.1.lt, h.2.1.below hb h.2.1.lt, h.2.2.1.trans (hb.mono h.2.2.1.size), h.2.2.2⟩
theorem Two.drew (h : Two w W g cs) : Two w W.drew g cs := ⟨h.1.drew, h.2.1.drew, below_drew h.2.2.1, h.2.2.2⟩
def SpecOut (s : Bs) (w : World) (e : Ending) (w' : World) : Prop := e = .returned (.tuple #[.agg (specP s).1.cells, .int .i64 (specP s).2]) ∧ Below w.heap.size w w'
theorem spec_is {s : Bs} {w' : World} {v : Ver} {k : Int} {cs : Array Value} (h : specP s = (v, k)) (hc : v.cells = cs) (hb : Below w.heap.size w w') : SpecOut s w (.returned (.tuple #[.agg cs, .int .i64 k])) w' := by
  subst hc
  exact ⟨by rw [h], hb⟩
theorem slice_bef {l a : Bs} {c : UInt8} {k : Nat} (hk : fst c l = k) (hb : bef c l = a) : ∀ W : World, (Instr.slice 9 (.string (S l)) none (some (.int .i64 (k : Int))) none).run Tryd.prog W = .ok (.string (S a)) W := by
  intro W
  have hle := fst_le c l
  have h := run_slice_string_h (P := Tryd.prog) (w := W) (t := 9) (s := S l) Tryd.underlying9 .i64 (k : Int) (by omega) (by rw [S_size]; omega)
  rw [h, Int.toNat_natCast, S_extract, ← hb]
  unfold bef
  rw [hk]
  simp
theorem slice_aft {l a : Bs} {c : UInt8} {k : Nat} (hk : fst c l = k) (hlt : k < l.length) (ha : aft c l = a) : ∀ W : World, (Instr.slice 9 (.string (S l)) (some (.int .i64 ((k : Int) + 1))) none none).run Tryd.prog W = .ok (.string (S a)) W := by
  intro W
  have e1 : ((k : Int) + 1).toNat = k + 1 := by omega
  have h := run_slice_string_l (P := Tryd.prog) (w := W) (t := 9) (s := S l) Tryd.underlying9 .i64 ((k : Int) + 1) (by omega) (by rw [S_size]; omega)
  rw [h, e1, S_extract, ← ha]
  unfold aft
  rw [hk, S_size]
  simp
section
variable {s : Bs} (h0 : ¬ (s.head? = some 118 ∨ s.head? = some 86))
include h0
theorem specP_A (h1 : (fnd 43 s && !identsB (aft 43 s)) = true) : specP s = (⟨0, 0, 0, [], aft 43 s⟩, 0) := by
  unfold specP; rw [if_neg h0, if_pos h1]
variable (h1 : (fnd 43 s && !identsB (aft 43 s)) = false)
include h1
theorem specP_B (h2 : (fnd 45 (bef 43 s) && !identsB (aft 45 (bef 43 s))) = true) : specP s = (⟨0, 0, 0, aft 45 (bef 43 s), aft 43 s⟩, 0) := by
  unfold specP; rw [if_neg h0, if_neg (by rw [h1]; decide), if_pos h2]
variable (h2 : (fnd 45 (bef 43 s) && !identsB (aft 45 (bef 43 s))) = false)
include h2
theorem specP_D (h3 : (dots (bef 45 (bef 43 s))).all digitsB = false) : specP s = (⟨0, 0, 0, aft 45 (bef 43 s), aft 43 s⟩, 0) := by
  unfold specP; rw [if_neg h0, if_neg (by rw [h1]; decide), if_neg (by rw [h2]; decide), if_pos h3]
variable (h3 : (dots (bef 45 (bef 43 s))).all digitsB = true)
include h3
theorem specP_E (h4 : (dots (bef 45 (bef 43 s))).length ≠ 3) : specP s = (⟨0, 0, 0, aft 45 (bef 43 s), aft 43 s⟩, 0) := by
  unfold specP; rw [if_neg h0, if_neg (by rw [h1]; decide), if_neg (by rw [h2]; decide), if_neg (by rw [h3]; decide), if_pos h4]
theorem specP_L (h4 : (dots (bef 45 (bef 43 s))).length = 3) (h5 : (leadingB (bef 45 (bef 43 s)) || leadingB (aft 45 (bef 43 s)) || long (dots (bef 45 (bef 43 s)))) = true) : specP s = (⟨0, 0, 0, aft 45 (bef 43 s), aft 43 s⟩, 2) := by
  unfold specP; rw [if_neg h0, if_neg (by rw [h1]; decide), if_neg (by rw [h2]; decide), if_neg (by rw [h3]; decide), if_neg (by omega), if_pos h5]
theorem specP_O {x0 x1 x2 : Bs} (h4 : dots (bef 45 (bef 43 s)) = [x0, x1, x2]) (h5 : (leadingB (bef 45 (bef 43 s)) || leadingB (aft 45 (bef 43 s)) || long (dots (bef 45 (bef 43 s)))) = false) : specP s = (⟨numB x0, numB x1, numB x2, aft 45 (bef 43 s), aft 43 s⟩, 1) := by
  have hl : (dots (bef 45 (bef 43 s))).length = 3 := by rw [h4]; rfl
  unfold specP; rw [if_neg h0, if_neg (by rw [h1]; decide), if_neg (by rw [h2]; decide), if_neg (by rw [h3]; decide), if_neg (by omega), if_neg (by rw [h5]; decide), h4]; rfl
end

end Go.Proofs.YtaoeelhgfdknfaaDoor
