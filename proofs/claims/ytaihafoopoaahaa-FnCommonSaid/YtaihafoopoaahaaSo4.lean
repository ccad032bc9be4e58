/- The walks of order2, median, medianAdjacent, choosePivot. Under sizes alone. -/
import Derived.Test.YtaihafoopoaahaaSo3
namespace Go.Proofs.Ytaihafoopoaahaa
open Go.RowKit

section
variable {sb blk B sz : Nat} {lt : Nat → Nat → Bool} {R : World → Array Nat → Prop}

/-- In the middle of choosePivot: old memory stands; the counter's block g holds s. -/
def Cnt (W0 : World) (R : World → Array Nat → Prop) (d : Array Nat) (g : Nat) (s : Nat) (W : World) : Prop :=
  R W0 d ∧ Below W0.heap.size W0 W ∧ W0.heap.size ≤ g ∧ Blk W g 3 #[.int .i64 s]

theorem Cnt.row (h : SortEnv sb blk B sz lt R) {W0 W : World} {d : Array Nat} {g s : Nat} (k : Cnt W0 R d g s W) : R W d := h.grow _ _ _ k.1 k.2.1
theorem Cnt.lessI (h : SortEnv sb blk B sz lt R) {W0 W : World} {d : Array Nat} {g s : Nat} (k : Cnt W0 R d g s W) (i j : Nat) (x y : Int) (hx : x = (i : Int)) (hy : y = (j : Int)) (hi : i < sz) (hj : j < sz) (b : Bool) (hb : lt d[i]! d[j]! = b) :
    Calls Try.prog 65 #[rcv sb, .int .i64 x, .int .i64 y] W fun e w' => e = .returned (.bool b) ∧ Cnt W0 R d g s w' := by
  subst hx hy hb
  exact (h.less W d (k.row h) i j hi hj).mono fun _ _ ⟨he, hb⟩ => ⟨he, k.1, k.2.1.trans (hb.mono k.2.1.size), k.2.2.1, k.2.2.2.below hb k.2.2.2.lt⟩
theorem Cnt.store {W0 W : World} {d : Array Nat} {g s : Nat} (k : Cnt W0 R d g s W) (x : Int) (t : Nat) (hx : x = (t : Int)) : Cnt W0 R d g t (W.setCell ⟨g, 0, none⟩ (.int .i64 x)) := by
  subst hx
  exact ⟨k.1, k.2.1.setCell k.2.2.1 _, k.2.2.1, k.2.2.2.set_ 0 _⟩

set_option linter.unusedSimpArgs false in
set_option linter.unusedVariables false in
set_option maxHeartbeats 1000000 in
set_option maxRecDepth 100000 in
theorem order2_any (h : SortEnv sb blk B sz lt R) {W0 W : World} {d : Array Nat} {g s : Nat} (k : Cnt W0 R d g s W) (a b : Nat) (x y : Int) (hx : x = (a : Int)) (hy : y = (b : Int)) (ha : a < sz) (hb : b < sz) (hs : s < 1000) :
    Calls Try.prog 47 #[.iface 39 (rcv sb), .int .i64 x, .int .i64 y, .pointer (some ⟨g, 0, none⟩)] W fun e w' =>
      e = .returned (.tuple #[.int .i64 (Sort.order2 lt d a b s).1, .int .i64 (Sort.order2 lt d a b s).2.1]) ∧ Cnt W0 R d g (Sort.order2 lt d a b s).2.2 w' := by
  subst hx hy
  have mL := finds_Less sb
  have eL := enters_Less
  have HE := hide h
  have HK := hide k
  clear h k
  unfold Sort.order2
  go_enter Try.func47, Try.ntmps47
  cases hl : lt d[b]! d[a]! with
  | true =>
    go_wp2_with fail
    refine (HK.out.lessI HE.out b a _ _ rfl rfl hb ha true hl).mono ?_
    rintro _ w5 ⟨rfl, hk5⟩
    have hc := hk5.2.2.2.cell 0
    have hf := hk5.2.2.2.frozen 0
    have HK5 := hide hk5
    simp at hc
    clear hk5
    go_wp2
    go_ret2
    refine ⟨rfl, HK5.out.store _ _ (by go_num)⟩
  | false =>
    go_wp2_with fail
    refine (HK.out.lessI HE.out b a _ _ rfl rfl hb ha false hl).mono ?_
    rintro _ w5 ⟨rfl, hk5⟩
    have HK5 := hide hk5
    clear hk5
    go_wp2
    go_ret2
    exact ⟨rfl, HK5.out⟩

theorem order2_lt (d : Array Nat) {a b m : Nat} (s : Nat) (ha : a < m) (hb : b < m) : (Sort.order2 lt d a b s).1 < m ∧ (Sort.order2 lt d a b s).2.1 < m ∧ (Sort.order2 lt d a b s).2.2 ≤ s + 1 := by
  unfold Sort.order2
  split <;> refine ⟨?_, ?_, ?_⟩ <;> simp <;> omega

set_option linter.unusedSimpArgs false in
set_option linter.unusedVariables false in
set_option maxHeartbeats 1000000 in
set_option maxRecDepth 100000 in
theorem median_any (h : SortEnv sb blk B sz lt R) {W0 W : World} {d : Array Nat} {g s : Nat} (k : Cnt W0 R d g s W) (a b c : Nat) (x y z : Int) (hx : x = (a : Int)) (hy : y = (b : Int)) (hz : z = (c : Int)) (ha : a < sz) (hb : b < sz) (hc : c < sz) (hs : s < 990) :
    Calls Try.prog 46 #[.iface 39 (rcv sb), .int .i64 x, .int .i64 y, .int .i64 z, .pointer (some ⟨g, 0, none⟩)] W fun e w' =>
      e = .returned (.int .i64 (Sort.median lt d a b c s).1) ∧ Cnt W0 R d g (Sort.median lt d a b c s).2 w' := by
  subst hx hy hz
  have HE := hide h
  have HK := hide k
  clear h k
  unfold Sort.median
  obtain ⟨p1, p2, p3⟩ := order2_lt (lt := lt) d s ha hb
  generalize h1 : Sort.order2 lt d a b s = r1 at *
  obtain ⟨a1, b1, s1⟩ := r1
  simp only at p1 p2 p3
  dsimp only
  obtain ⟨q1, q2, q3⟩ := order2_lt (lt := lt) d s1 p2 hc
  generalize h2 : Sort.order2 lt d b1 c s1 = r2 at *
  obtain ⟨b2, c2, s2⟩ := r2
  simp only at q1 q2 q3
  dsimp only
  obtain ⟨o1, o2, o3⟩ := order2_lt (lt := lt) d s2 p1 q1
  generalize h3 : Sort.order2 lt d a1 b2 s2 = r3 at *
  obtain ⟨a3, b3, s3⟩ := r3
  simp only at o1 o2 o3
  dsimp only
  have H1 := hide h1
  have H2 := hide h2
  have H3 := hide h3
  clear h1 h2 h3
  go_enter Try.func46, Try.ntmps46
  go_wp2_with fail
  refine (order2_any HE.out HK.out a b _ _ rfl rfl ha hb (by omega)).mono ?_
  rw [H1.out]
  rintro _ w1 ⟨rfl, hk1⟩
  have HK1 := hide hk1
  clear hk1
  go_wp2_with fail
  refine (order2_any HE.out HK1.out b1 c _ _ rfl rfl p2 hc (by omega)).mono ?_
  rw [show (Sort.order2 lt d b1 c (a1, b1, s1).2.2) = (b2, c2, s2) from H2.out]
  rintro _ w2 ⟨rfl, hk2⟩
  have HK2 := hide hk2
  clear hk2
  go_wp2_with fail
  refine (order2_any HE.out HK2.out a1 b2 _ _ rfl rfl p1 q1 (by omega)).mono ?_
  rw [show (Sort.order2 lt d a1 b2 (b2, c2, s2).2.2) = (a3, b3, s3) from H3.out]
  rintro _ w3 ⟨rfl, hk3⟩
  have HK3 := hide hk3
  clear hk3
  go_wp2
  go_ret
  exact ⟨rfl, HK3.out⟩

theorem median_lt (d : Array Nat) {a b c m : Nat} (s : Nat) (ha : a < m) (hb : b < m) (hc : c < m) : (Sort.median lt d a b c s).1 < m ∧ (Sort.median lt d a b c s).2 ≤ s + 3 := by
  unfold Sort.median
  dsimp only
  obtain ⟨p1, p2, p3⟩ := order2_lt (lt := lt) d s ha hb
  obtain ⟨q1, q2, q3⟩ := order2_lt (lt := lt) d (Sort.order2 lt d a b s).2.2 p2 hc
  obtain ⟨o1, o2, o3⟩ := order2_lt (lt := lt) d (Sort.order2 lt d (Sort.order2 lt d a b s).2.1 c (Sort.order2 lt d a b s).2.2).2.2 p1 q1
  exact ⟨o2, by omega⟩

set_option linter.unusedSimpArgs false in
set_option linter.unusedVariables false in
set_option maxHeartbeats 1000000 in
set_option maxRecDepth 100000 in
theorem medianAdjacent_any (h : SortEnv sb blk B sz lt R) {W0 W : World} {d : Array Nat} {g s : Nat} (k : Cnt W0 R d g s W) (a : Nat) (x : Int) (hx : x = (a : Int)) (h1 : 1 ≤ a) (ha : a + 1 < sz) (hs : s < 990) :
    Calls Try.prog 45 #[.iface 39 (rcv sb), .int .i64 x, .pointer (some ⟨g, 0, none⟩)] W fun e w' =>
      e = .returned (.int .i64 (Sort.medianAdjacent lt d a s).1) ∧ Cnt W0 R d g (Sort.medianAdjacent lt d a s).2 w' := by
  subst hx
  have HE := hide h
  have HK := hide k
  have hsm := h.small
  clear h k
  unfold Sort.medianAdjacent
  go_enter Try.func45, Try.ntmps45
  go_wp2_with fail
  refine (median_any HE.out HK.out (a - 1) a (a + 1) _ _ _ (by omega) (by omega) (by omega) (by omega) (by omega) ha hs).mono ?_
  rintro _ w1 ⟨rfl, hk1⟩
  have HK1 := hide hk1
  clear hk1
  go_wp2
  go_ret
  exact ⟨rfl, HK1.out⟩

/-- The pivot's hint as a number. -/
def hintN : Sort.Hint → Int
  | .unknown => 0
  | .increasing => 1
  | .decreasing => 2

set_option linter.unusedSimpArgs false in
set_option linter.unusedVariables false in
set_option maxHeartbeats 2000000 in
set_option maxRecDepth 100000 in
theorem choosePivot_any (h : SortEnv sb blk B sz lt R) (W : World) (d : Array Nat) (hR : R W d) (a b : Nat) (hab : a + 12 < b) (hb : b ≤ sz) :
    Calls Try.prog 37 #[.iface 39 (rcv sb), .int .i64 a, .int .i64 b] W fun e w' => e = .returned (.tuple #[.int .i64 (Sort.choosePivot lt d a b).1, .int .i64 (hintN (Sort.choosePivot lt d a b).2)]) ∧ Below W.heap.size W w' := by
  have HE := hide h
  have hsm := h.small
  have HK : Hid (Cnt W R d W.heap.size 0 (W.alloc (.cells #[.int .i64 0] 3))) := (⟨hR, (Below.refl _ _).alloc (Nat.le_refl _) _, Nat.le_refl _, Blk.new _ _ _⟩ : Cnt W R d W.heap.size 0 (W.alloc (.cells #[.int .i64 0] 3)))
  clear h
  have hI : ∀ x y : Nat, Sort.choosePivot lt d a b = Sort.choosePivot lt d a b := fun _ _ => rfl
  clear hI
  go_enter Try.func37, Try.ntmps37
  by_cases h50 : b - a ≥ 50
  · obtain ⟨i, hi⟩ : ∃ i, i = a + (b - a) / 4 * 1 := ⟨_, rfl⟩
    obtain ⟨j, hj⟩ : ∃ j, j = a + (b - a) / 4 * 2 := ⟨_, rfl⟩
    obtain ⟨k, hk⟩ : ∃ k, k = a + (b - a) / 4 * 3 := ⟨_, rfl⟩
    have hM : Sort.choosePivot lt d a b = _ := rfl
    conv at hM => rhs; unfold Sort.choosePivot
    simp only [if_pos h50, if_pos (show b - a ≥ 8 by omega), ← hi, ← hj, ← hk] at hM
    obtain ⟨p1, p2⟩ := median_lt (lt := lt) d (a := i - 1) (b := i) (c := i + 1) (m := sz) 0 (by omega) (by omega) (by omega)
    generalize h1 : Sort.medianAdjacent lt d i 0 = r1 at hM
    rw [show Sort.median lt d (i - 1) i (i + 1) 0 = r1 from h1] at p1 p2
    obtain ⟨i1, s1⟩ := r1
    simp only at hM p1 p2
    obtain ⟨q1, q2⟩ := median_lt (lt := lt) d (a := j - 1) (b := j) (c := j + 1) (m := sz) s1 (by omega) (by omega) (by omega)
    generalize h2 : Sort.medianAdjacent lt d j s1 = r2 at hM
    rw [show Sort.median lt d (j - 1) j (j + 1) s1 = r2 from h2] at q1 q2
    obtain ⟨j1, s2⟩ := r2
    simp only at hM q1 q2
    obtain ⟨o1, o2⟩ := median_lt (lt := lt) d (a := k - 1) (b := k) (c := k + 1) (m := sz) s2 (by omega) (by omega) (by omega)
    generalize h3 : Sort.medianAdjacent lt d k s2 = r3 at hM
    rw [show Sort.median lt d (k - 1) k (k + 1) s2 = r3 from h3] at o1 o2
    obtain ⟨k1, s3⟩ := r3
    simp only at hM o1 o2
    obtain ⟨m1, m2⟩ := median_lt (lt := lt) d (a := i1) (b := j1) (c := k1) (m := sz) s3 p1 q1 o1
    generalize h4 : Sort.median lt d i1 j1 k1 s3 = r4 at hM m1 m2
    obtain ⟨p9, s9⟩ := r4
    simp only at hM m1 m2
    have H1 := hide h1
    have H2 := hide h2
    have H3 := hide h3
    have H4 := hide h4
    have HM := hide hM
    clear h1 h2 h3 h4 hM
    go_wp2_with fail
    refine (medianAdjacent_any HE.out HK.out i _ (by omega) (by omega) (by omega) (by omega)).mono ?_
    rw [H1.out]
    rintro _ w1 ⟨rfl, hk1⟩
    have HK1 := hide hk1
    clear hk1
    go_wp2_with fail
    refine (medianAdjacent_any HE.out HK1.out j _ (by omega) (by omega) (by omega) (by omega)).mono ?_
    rw [show Sort.medianAdjacent lt d j (i1, s1).2 = (j1, s2) from H2.out]
    rintro _ w2 ⟨rfl, hk2⟩
    have HK2 := hide hk2
    clear hk2
    go_wp2_with fail
    refine (medianAdjacent_any HE.out HK2.out k _ (by omega) (by omega) (by omega) (by omega)).mono ?_
    rw [show Sort.medianAdjacent lt d k (j1, s2).2 = (k1, s3) from H3.out]
    rintro _ w3 ⟨rfl, hk3⟩
    have HK3 := hide hk3
    clear hk3
    go_wp2_with fail
    refine (median_any HE.out HK3.out i1 j1 k1 _ _ _ rfl rfl rfl p1 q1 o1 (by omega)).mono ?_
    rw [show Sort.median lt d i1 j1 k1 (k1, s3).2 = (p9, s9) from H4.out]
    rintro _ w4 ⟨rfl, hk4⟩
    have HK4 := hide hk4
    clear hk4
    have hc := HK4.out.2.2.2.cell 0
    simp at hc
    by_cases hz : s9 = 0
    · subst hz
      go_wp2
      go_ret2
      exact ⟨by rw [HM.out]; simp [hintN], HK4.out.2.1⟩
    · by_cases ht : s9 = 12
      · subst ht
        go_wp2
        go_ret2
        exact ⟨by rw [HM.out]; simp [hintN], HK4.out.2.1⟩
      · go_wp2
        go_ret2
        exact ⟨by rw [HM.out]; simp [hintN, hz, ht], HK4.out.2.1⟩
  · obtain ⟨i, hi⟩ : ∃ i, i = a + (b - a) / 4 * 1 := ⟨_, rfl⟩
    obtain ⟨j, hj⟩ : ∃ j, j = a + (b - a) / 4 * 2 := ⟨_, rfl⟩
    obtain ⟨k, hk⟩ : ∃ k, k = a + (b - a) / 4 * 3 := ⟨_, rfl⟩
    have hM : Sort.choosePivot lt d a b = _ := rfl
    conv at hM => rhs; unfold Sort.choosePivot
    simp only [if_neg h50, if_pos (show b - a ≥ 8 by omega), ← hi, ← hj, ← hk] at hM
    obtain ⟨m1, m2⟩ := median_lt (lt := lt) d (a := i) (b := j) (c := k) (m := sz) 0 (by omega) (by omega) (by omega)
    generalize h4 : Sort.median lt d i j k 0 = r4 at hM m1 m2
    obtain ⟨p9, s9⟩ := r4
    simp only at hM m1 m2
    have H4 := hide h4
    have HM := hide hM
    clear h4 hM
    go_wp2_with fail
    refine (median_any HE.out HK.out i j k _ _ _ (by omega) (by omega) (by omega) (by omega) (by omega) (by omega) (by omega)).mono ?_
    rw [H4.out]
    rintro _ w4 ⟨rfl, hk4⟩
    have HK4 := hide hk4
    clear hk4
    have hc := HK4.out.2.2.2.cell 0
    simp at hc
    by_cases hz : s9 = 0
    · subst hz
      go_wp2
      go_ret2
      exact ⟨by rw [HM.out]; simp [hintN], HK4.out.2.1⟩
    · by_cases ht : s9 = 12
      · subst ht
        go_wp2
        go_ret2
        exact ⟨by rw [HM.out]; simp [hintN], HK4.out.2.1⟩
      · go_wp2
        go_ret2
        exact ⟨by rw [HM.out]; simp [hintN, hz, ht], HK4.out.2.1⟩
end
end Go.Proofs.Ytaihafoopoaahaa
