/- Rows of one-cell values as functions. No condition but sizes. -/
import Derived.Test.YtaihafoopoaahaaCl
namespace Go.Proofs.Ytaihafoopoaahaa
open Go.RowKit

def arrV (n : Nat) (V : Nat → Value) : Array Value := ((List.range n).map V).toArray
def updV (V : Nat → Value) (i : Nat) (v : Value) : Nat → Value := fun k => if k = i then v else V k

theorem arrV_size (n : Nat) (V : Nat → Value) : (arrV n V).size = n := by simp [arrV]
theorem arrV_get (n : Nat) (V : Nat → Value) {i : Nat} (hi : i < n) : (arrV n V)[i]? = some (V i) := by simp [arrV, hi]
theorem arrV_ext {n : Nat} {cs : Array Value} {V : Nat → Value} (h : cs.size = n) (hc : ∀ i, i < n → cs[i]? = some (V i)) : cs = arrV n V := by
  apply Array.ext
  · rw [h, arrV_size]
  · intro i h1 h2
    have := hc i (by omega)
    rw [Array.getElem?_eq_getElem h1] at this
    have h3 := arrV_get n V (i := i) (by omega)
    rw [Array.getElem?_eq_getElem h2] at h3
    rw [Option.some.inj this, Option.some.inj h3]
theorem arrV_set (n : Nat) (V : Nat → Value) (i : Nat) (v : Value) : (arrV n V).setIfInBounds i v = arrV n (updV V i v) := by
  apply arrV_ext
  · simp [arrV_size]
  · intro k hk
    by_cases h : i = k
    · subst h
      simp [updV, arrV_size, hk]
    · rw [Array.getElem?_setIfInBounds_ne h, arrV_get n V hk]
      simp [updV, Ne.symm h]
theorem arrV_congr {n : Nat} {V W : Nat → Value} (h : ∀ i, i < n → V i = W i) : arrV n V = arrV n W :=
  arrV_ext (arrV_size n V) (fun i hi => by rw [arrV_get n V hi, h i hi])
section
variable {w : World} {g n : Nat} {t : TypeId} {V : Nat → Value}
theorem Blk.vcell (h : Blk w g t (arrV n V)) {i : Nat} (hi : i < n) : w.cell? ⟨g, i, none⟩ = some (V i) := (h.cell i).trans (arrV_get n V hi)
theorem Blk.vset (h : Blk w g t (arrV n V)) (i : Nat) (v : Value) : Blk (w.setCell ⟨g, i, none⟩ v) g t (arrV n (updV V i v)) := by
  rw [← arrV_set]; exact h.set_ i _
end
theorem made_arrV (n : Nat) (z : Value) (hz : z.cells = #[z]) : madeCells z.cells (n * 1) = arrV n (fun _ => z) := by
  rw [hz]
  apply arrV_ext
  · rw [size_madeCells]; simp
  · intro i hi
    simp [madeCells, hi, Nat.mod_one]
theorem make_vals (t e : TypeId) (z : Value) (bytes : Nat) (hz : z.cells = #[z]) (ht : Try.prog.underlying t = some (.slice e)) (hi : (Try.prog.info? e).map (fun i => (i.zero, i.size, i.bytes)) = some (some z, 1, bytes)) {n : Nat} (hn : n ≤ 1000000) (hb : bytes ≤ 1000) (w : World) :
    (Instr.makeSlice t (.int .i64 (n : Int)) (.int .i64 (n : Int))).run Try.prog w = .ok (.slice (some ⟨w.heap.size, 0, none⟩) n n) (w.alloc (.cells (arrV n (fun _ => z)) e)) := by
  obtain ⟨i0, hi, hz0, hz1, hz2⟩ := info_parts hi
  have hm : bytes * n ≤ 1000 * 1000000 := Nat.mul_le_mul hb hn
  have hm2 : (bytes : Int) * (n : Int) ≤ 281474976710656 := by
    have : ((bytes * n : Nat) : Int) ≤ 281474976710656 := by omega
    rw [Int.natCast_mul] at this
    exact this
  have hr := run_make (P := Try.prog) w t e i0 z ht hi hz0 .i64 .i64 n n (by omega) (Int.le_refl _) (by rw [hz2]; exact hm2) (by omega)
  simp only [Int.toNat_natCast] at hr
  rw [hr, hz1, made_arrV n z hz]
theorem make_bytes {n : Nat} (hn : n ≤ 1000000) (w : World) : (Instr.makeSlice 22 (.int .i64 (n : Int)) (.int .i64 (n : Int))).run Try.prog w = .ok (.slice (some ⟨w.heap.size, 0, none⟩) n n) (w.alloc (.cells (arrV n (fun _ => .int .u8 0)) 5)) := make_vals 22 5 (.int .u8 0) 1 rfl Try.underlying22 info5 hn (by omega) w
end Go.Proofs.Ytaihafoopoaahaa
