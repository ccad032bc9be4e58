/- Rows of integers as functions; the walks of suffixSortable's Len, Less, Swap. Under sizes alone. -/
import Derived.Test.YtaihafoopoaahaaSo10
import Derived.BigQuiet
import Derived.BigRegion
namespace Go.Proofs.Ytaihafoopoaahaa
open Go.RowKit

def upd (S : Nat → Int) (i : Nat) (v : Int) : Nat → Int := fun k => if k = i then v else S k
def arr (n : Nat) (S : Nat → Int) : Array Value := ((List.range n).map (fun i => Value.int .i64 (S i))).toArray

theorem arr_size (n : Nat) (S : Nat → Int) : (arr n S).size = n := by simp [arr]
theorem arr_get (n : Nat) (S : Nat → Int) {i : Nat} (hi : i < n) : (arr n S)[i]? = some (.int .i64 (S i)) := by
  simp [arr, hi]
theorem arr_ext {n : Nat} {cs : Array Value} {S : Nat → Int} (h : cs.size = n) (hc : ∀ i, i < n → cs[i]? = some (.int .i64 (S i))) : cs = arr n S := by
  apply Array.ext
  · rw [h, arr_size]
  · intro i h1 h2
    have := hc i (by omega)
    rw [Array.getElem?_eq_getElem h1] at this
    have h3 := arr_get n S (i := i) (by omega)
    rw [Array.getElem?_eq_getElem h2] at h3
    rw [Option.some.inj this, Option.some.inj h3]
theorem arr_set (n : Nat) (S : Nat → Int) (i : Nat) (v : Int) : (arr n S).setIfInBounds i (.int .i64 v) = arr n (upd S i v) := by
  apply arr_ext
  · simp [arr_size]
  · intro k hk
    by_cases h : i = k
    · subst h
      simp [upd, arr_size, hk]
    · rw [Array.getElem?_setIfInBounds_ne h, arr_get n S hk]
      simp [upd, Ne.symm h]
theorem arr_congr {n : Nat} {S T : Nat → Int} (h : ∀ i, i < n → S i = T i) : arr n S = arr n T :=
  arr_ext (arr_size n S) (fun i hi => by rw [arr_get n S hi, h i hi])

section
variable {w : World} {g n : Nat} {t : TypeId} {S : Nat → Int}
theorem Blk.icell (h : Blk w g t (arr n S)) {i : Nat} (hi : i < n) : w.cell? ⟨g, i, none⟩ = some (.int .i64 (S i)) := (h.cell i).trans (arr_get n S hi)
theorem Blk.iset (h : Blk w g t (arr n S)) (i : Nat) (v : Int) : Blk (w.setCell ⟨g, i, none⟩ (.int .i64 v)) g t (arr n (upd S i v)) := by
  rw [← arr_set]; exact h.set_ i _
end

/-- S with d laid from place lo on. -/
def seg (S : Nat → Int) (lo : Nat) (d : Array Nat) : Nat → Int := fun k => if lo ≤ k ∧ k < lo + d.size then (d[k - lo]! : Int) else S k

theorem seg_at (S : Nat → Int) (lo : Nat) (d : Array Nat) {i : Nat} (hi : i < d.size) : seg S lo d (lo + i) = (d[i]! : Int) := by
  unfold seg
  rw [if_pos ⟨by omega, by omega⟩, show lo + i - lo = i by omega]

theorem seg_swp (S : Nat → Int) (lo : Nat) (d : Array Nat) {i j : Nat} (hi : i < d.size) (hj : j < d.size) :
    upd (upd (seg S lo d) (lo + i) (d[j]! : Int)) (lo + j) (d[i]! : Int) = seg S lo (Sort.swp d i j) := by
  funext k
  unfold upd seg
  rw [Sort.swp_size]
  by_cases h : lo ≤ k ∧ k < lo + d.size
  · rw [if_pos h, if_pos h, Sort.swp_get d hi hj]
    by_cases h1 : k = lo + j
    · subst h1
      rw [if_pos rfl, show lo + j - lo = j by omega]
      simp
    · rw [if_neg h1]
      have h2 : ¬ (k - lo = j) := by omega
      by_cases h3 : k = lo + i
      · subst h3
        rw [if_pos rfl, show lo + i - lo = i by omega]
        simp
        rw [if_neg (by omega)]
      · rw [if_neg h3]
        have h4 : ¬ (k - lo = i) := by omega
        simp [h2, h4]
  · rw [if_neg h, if_neg h, if_neg (by omega), if_neg (by omega)]

/-- The sortable in memory: sa = [lo, lo + sz) of the block blk, of which that part is d. -/
structure Row (sb blk ib n lo sz cap h : Nat) (buf : Value) (I S : Nat → Int) (W : World) (d : Array Nat) : Prop where
  size : d.size = sz
  st : Blk W sb 41 #[.slice (some ⟨blk, lo, none⟩) sz cap, .slice (some ⟨ib, 0, none⟩) n n, .int .i64 h, buf]
  inv : Blk W ib 3 (arr n I)
  sa : Blk W blk 3 (arr n (seg S lo d))
  rng : ∀ i, i < sz → d[i]! + h < n

/-- The sort's order. -/
def ltK (I : Nat → Int) (h : Nat) (x y : Nat) : Bool := decide (I (x + h) < I (y + h))

theorem ltK_swo (I : Nat → Int) (h : Nat) : Sort.SWO (ltK I h) :=
  ⟨fun x => by simp [ltK], fun x y z h1 h2 => by simp [ltK] at *; omega, fun x y z h1 h2 => by simp [ltK] at *; omega⟩

section
variable {sb blk ib n lo sz cap h : Nat} {buf : Value} {I S : Nat → Int} {W : World} {d : Array Nat}
set_option linter.unusedSimpArgs false in
set_option linter.unusedVariables false in
set_option maxHeartbeats 1000000 in
set_option maxRecDepth 100000 in
theorem Len_any (hR : Row sb blk ib n lo sz cap h buf I S W d) :
    Calls Try.prog 64 #[rcv sb] W fun e w' => e = .returned (.int .i64 sz) ∧ Below W.heap.size W w' := by
  have h0 := hR.st.cell 0
  simp at h0
  have HR := hide hR
  clear hR
  go_enter Try.func64, Try.ntmps64
  go_wp2
  go_ret
  exact ⟨rfl, Below.refl _ _⟩

set_option linter.unusedSimpArgs false in
set_option linter.unusedVariables false in
set_option maxHeartbeats 1000000 in
set_option maxRecDepth 100000 in
theorem Less_any (hR : Row sb blk ib n lo sz cap h buf I S W d) (hn : lo + sz ≤ n) (hb : n ≤ 1099511627776) (i j : Nat) (hi : i < sz) (hj : j < sz) :
    Calls Try.prog 65 #[rcv sb, .int .i64 i, .int .i64 j] W fun e w' => e = .returned (.bool (ltK I h d[i]! d[j]!)) ∧ Below W.heap.size W w' := by
  have h0 := hR.st.cell 0
  have h1 := hR.st.cell 1
  have h2 := hR.st.cell 2
  simp at h0 h1 h2
  have s1 := hR.sa.icell (i := lo + i) (by omega)
  have s2 := hR.sa.icell (i := lo + j) (by omega)
  rw [seg_at _ _ _ (by rw [hR.size]; exact hi)] at s1
  rw [seg_at _ _ _ (by rw [hR.size]; exact hj)] at s2
  have r1 := hR.rng i hi
  have r2 := hR.rng j hj
  have i1 := hR.inv.icell r1
  have i2 := hR.inv.icell r2
  obtain ⟨x, hx⟩ : ∃ x, x = d[i]! := ⟨_, rfl⟩
  obtain ⟨y, hy⟩ : ∃ y, y = d[j]! := ⟨_, rfl⟩
  rw [← hx] at s1 r1 i1 ⊢
  rw [← hy] at s2 r2 i2 ⊢
  unfold ltK
  clear hR hx hy
  go_enter Try.func65, Try.ntmps65
  go_wp2
  go_quiet (fail)
  go_wp2
  go_ret
  exact ⟨rfl, below_drewN (Below.refl _ _) _⟩

set_option linter.unusedSimpArgs false in
set_option linter.unusedVariables false in
set_option maxHeartbeats 2000000 in
set_option maxRecDepth 100000 in
theorem Swap_any (hR : Row sb blk ib n lo sz cap h buf I S W d) (hn : lo + sz ≤ n) (hb : n ≤ 1099511627776) (hsb : sb ≠ blk) (hib : ib ≠ blk) (i j : Nat) (hi : i < sz) (hj : j < sz) :
    Calls Try.prog 66 #[rcv sb, .int .i64 i, .int .i64 j] W fun e w' => e = .returned (.tuple #[]) ∧ Chg (fun g => g = blk) W w' ∧ Row sb blk ib n lo sz cap h buf I S w' (Sort.swp d i j) := by
  have h0 := hR.st.cell 0
  simp at h0
  have s1 := hR.sa.icell (i := lo + i) (by omega)
  have s2 := hR.sa.icell (i := lo + j) (by omega)
  rw [seg_at _ _ _ (by rw [hR.size]; exact hi)] at s1
  rw [seg_at _ _ _ (by rw [hR.size]; exact hj)] at s2
  have f1 := hR.sa.frozen (lo + i)
  have f2 := hR.sa.frozen (lo + j)
  have hFIN : Chg (fun g => g = blk) W (((W.setCell ⟨blk, lo + i, none⟩ (.int .i64 (d[j]! : Int))).setCell ⟨blk, lo + j, none⟩ (.int .i64 (d[i]! : Int))).drew) ∧ Row sb blk ib n lo sz cap h buf I S (((W.setCell ⟨blk, lo + i, none⟩ (.int .i64 (d[j]! : Int))).setCell ⟨blk, lo + j, none⟩ (.int .i64 (d[i]! : Int))).drew) (Sort.swp d i j) := by
    have hc1 : Chg (fun g => g = blk) W (W.setCell ⟨blk, lo + i, none⟩ (.int .i64 (d[j]! : Int))) := (Chg.refl (fun g => g = blk) W).setCell (p := ⟨blk, lo + i, none⟩) (fun _ => rfl) _
    have hc2 : Chg (fun g => g = blk) W ((W.setCell ⟨blk, lo + i, none⟩ (.int .i64 (d[j]! : Int))).setCell ⟨blk, lo + j, none⟩ (.int .i64 (d[i]! : Int))) := hc1.setCell (p := ⟨blk, lo + j, none⟩) (fun _ => rfl) _
    have hc := hc2.drew
    refine ⟨hc, ⟨by rw [Sort.swp_size]; exact hR.size, hR.st.chg hc hsb, hR.inv.chg hc hib, ?_, ?_⟩⟩
    · rw [← seg_swp S lo d (by rw [hR.size]; exact hi) (by rw [hR.size]; exact hj)]
      exact ((hR.sa.iset (lo + i) _).iset (lo + j) _).drew
    · intro k hk
      rw [Sort.swp_get d (by rw [hR.size]; exact hi) (by rw [hR.size]; exact hj)]
      split
      · exact hR.rng i hi
      · split
        · exact hR.rng j hj
        · exact hR.rng k hk
  have HF := hide hFIN
  obtain ⟨x, hx⟩ : ∃ x : Int, x = (d[i]! : Int) := ⟨_, rfl⟩
  obtain ⟨y, hy⟩ : ∃ y : Int, y = (d[j]! : Int) := ⟨_, rfl⟩
  rw [← hx] at s1 HF
  rw [← hy] at s2 HF
  by_cases hij : i = j
  · subst hij
    obtain rfl : x = y := by rw [hx, hy]
    clear hR hx hy hFIN
    go_enter Try.func66, Try.ntmps66
    go_wp2
    go_region
    all_goals go_wp2
    all_goals go_end0
    all_goals exact ⟨rfl, HF.out⟩
  · clear hR hx hy hFIN
    go_enter Try.func66, Try.ntmps66
    go_wp2
    go_region
    all_goals go_wp2
    all_goals go_end0
    all_goals exact ⟨rfl, HF.out⟩
end

/-- What a sort of the row leans on. -/
theorem Row.env {sb blk ib n lo sz cap h : Nat} {buf : Value} {I S : Nat → Int} (B : Nat) (hsb : sb < B) (hbl : blk < B) (hibB : ib < B) (hn : lo + sz ≤ n) (hb : n ≤ 1099511627776) (h1 : sb ≠ blk) (h2 : ib ≠ blk) :
    SortEnv sb blk B sz (ltK I h) (fun W d => Row sb blk ib n lo sz cap h buf I S W d ∧ B ≤ W.heap.size) :=
  { size := fun _ _ hR => hR.1.size
    at_ := fun _ _ hR => hR.2
    low := hbl
    keep := fun _ _ _ hR hk => ⟨⟨hR.1.size, hR.1.st.below hk hsb, hR.1.inv.below hk hibB, hR.1.sa.below hk hbl, hR.1.rng⟩, Nat.le_trans hR.2 hk.size⟩
    less := fun _ _ hR i j hi hj => Less_any hR.1 hn hb i j hi hj
    swap := fun _ _ hR i j hi hj => (Swap_any hR.1 hn hb h1 h2 i j hi hj).mono fun _ _ ⟨he, hc, hr⟩ => ⟨he, hc, hr, Nat.le_trans hR.2 hc.size⟩
    small := by omega }

/-- sort.Sort over the row: the part is permuted, and in order. -/
theorem sortRow {sb blk ib n lo sz cap h : Nat} {buf : Value} {I S : Nat → Int} {W : World} {d : Array Nat} (hR : Row sb blk ib n lo sz cap h buf I S W d) (hn : lo + sz ≤ n) (hb : n ≤ 1099511627776) (h1 : sb ≠ blk) (h2 : ib ≠ blk) :
    Calls Try.prog 20 #[.iface 39 (rcv sb)] W fun e w' => e = .returned (.tuple #[]) ∧ ∃ d', Chg (fun g => g = blk) W w' ∧ Row sb blk ib n lo sz cap h buf I S w' d' ∧ Sort.PermIn 0 sz d d' ∧ Sort.SortedIn (ltK I h) 0 sz d' := by
  have e1 := hR.st.lt
  have e2 := hR.sa.lt
  have e3 := hR.inv.lt
  refine (sort_any (Row.env (B := W.heap.size) e1 e2 e3 hn hb h1 h2) (ltK_swo I h) W d ⟨hR, Nat.le_refl _⟩ (Len_any hR)).mono ?_
  rintro e w' ⟨he, d', ⟨hc, hr⟩, hp, hs⟩
  exact ⟨he, d', hc, hr.1, hp, hs⟩
end Go.Proofs.Ytaihafoopoaahaa
