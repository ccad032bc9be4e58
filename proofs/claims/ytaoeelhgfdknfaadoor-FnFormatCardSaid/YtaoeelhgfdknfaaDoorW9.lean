/- The walks of impl.Compare and of the law FnCompare. Printed by gen_w9.py. -/
import Derived.Test.YtaoeelhgfdknfaaDoorW8
namespace Go.Proofs.YtaoeelhgfdknfaaDoor
open Go.RowKit

attribute [local go_sem] S_size S_toList E_toList S_extract

theorem cells5 {W : World} {g t : Nat} {x0 x1 x2 x3 x4 : Value} (h : Blk W g t #[x0, x1, x2, x3, x4]) : W.cell? ⟨g, 0, none⟩ = some x0 ∧ W.cell? ⟨g, 1, none⟩ = some x1 ∧ W.cell? ⟨g, 2, none⟩ = some x2 ∧ W.cell? ⟨g, 3, none⟩ = some x3 ∧ W.cell? ⟨g, 4, none⟩ = some x4 :=
  ⟨by rw [h.cell]; rfl, by rw [h.cell]; rfl, by rw [h.cell]; rfl, by rw [h.cell]; rfl, by rw [h.cell]; rfl⟩

theorem sgn_neg (a b : Int) : sgn b a = - sgn a b := by
  unfold sgn; split <;> split <;> (try split) <;> omega
theorem sgn_cases (a b : Int) : sgn a b = -1 ∨ sgn a b = 0 ∨ sgn a b = 1 := by
  unfold sgn; split
  · exact Or.inl rfl
  · split
    · exact Or.inr (Or.inr rfl)
    · exact Or.inr (Or.inl rfl)
theorem identC_neg (a b : Bs) : identC b a = - identC a b := by
  unfold identC
  have h := bl_total a b
  cases digitsB a <;> cases digitsB b
  · cases h1 : Op.bytesLess a b <;> cases h2 : Op.bytesLess b a
    · rfl
    · rfl
    · rfl
    · rw [h1, h2] at h; cases h
  · rfl
  · rfl
  · exact sgn_neg _ _
theorem identC_cases (a b : Bs) : identC a b = -1 ∨ identC a b = 0 ∨ identC a b = 1 := by
  unfold identC
  cases digitsB a <;> cases digitsB b
  · cases Op.bytesLess a b <;> cases Op.bytesLess b a <;> simp
  · simp
  · simp
  · exact sgn_cases _ _
theorem idsC_neg : ∀ X Y : List Bs, idsC Y X = - idsC X Y
  | [], [] => rfl
  | [], _ :: _ => rfl
  | _ :: _, [] => rfl
  | x :: X, y :: Y => by
    unfold idsC
    rw [identC_neg x y, idsC_neg X Y]
    by_cases h : identC x y = 0
    · simp [h]
    · rw [if_pos (by omega), if_pos h]
theorem idsC_cases : ∀ X Y : List Bs, idsC X Y = -1 ∨ idsC X Y = 0 ∨ idsC X Y = 1
  | [], [] => Or.inr (Or.inl rfl)
  | [], _ :: _ => Or.inl rfl
  | _ :: _, [] => Or.inr (Or.inr rfl)
  | x :: X, y :: Y => by
    unfold idsC
    split
    · exact identC_cases x y
    · exact idsC_cases X Y
theorem preC_neg (a b : Bs) : preC b a = - preC a b := by
  unfold preC
  by_cases h : a = b
  · rw [if_pos h, if_pos h.symm]; rfl
  · rw [if_neg h, if_neg (fun e => h e.symm)]
    by_cases ha : a = []
    · have hb : ¬ b = [] := fun e => h (by rw [ha, e])
      simp [ha, hb]
    · by_cases hb : b = []
      · simp [ha, hb]
      · rw [if_neg ha, if_neg hb, if_neg ha, if_neg hb]; exact idsC_neg _ _
theorem preC_cases (a b : Bs) : preC a b = -1 ∨ preC a b = 0 ∨ preC a b = 1 := by
  unfold preC
  split
  · simp
  · split
    · simp
    · split
      · simp
      · exact idsC_cases _ _
theorem verC_neg (a b : Ver) : verC b a = - verC a b := by
  unfold verC
  rw [sgn_neg a.maj b.maj, sgn_neg a.min b.min, sgn_neg a.pat b.pat, preC_neg a.pre b.pre]
  by_cases h0 : sgn a.maj b.maj = 0
  · by_cases h1 : sgn a.min b.min = 0
    · by_cases h2 : sgn a.pat b.pat = 0
      · simp [h0, h1, h2]
      · simp [h0, h1, h2]
    · simp [h0, h1]
  · simp [h0]
theorem verC_cases (a b : Ver) : verC a b = -1 ∨ verC a b = 0 ∨ verC a b = 1 := by
  unfold verC
  split
  · exact sgn_cases _ _
  · split
    · exact sgn_cases _ _
    · split
      · exact sgn_cases _ _
      · exact preC_cases _ _

set_option maxHeartbeats 2000000 in
set_option maxRecDepth 100000 in
theorem icompare_any (a b : Ver) (w : World) (ha : a.pre.length ≤ 8589934591) (hb : b.pre.length ≤ 8589934591) (hpa : properB a = true) (hpb : properB b = true) : Calls Tryd.prog 10 #[.agg a.cells, .agg b.cells] w (CmpOut (verC a b) w) := by
  have hofa := fun W => of_any a W
  have hofb := fun W => of_any b W
  have hcmp := fun W => vcompare_any a b W ha hb hpa hpb
  unfold Ver.cells CmpOut at *
  have hA0 : Blk ((w.alloc (.cells #[.int .i64 a.maj, .int .i64 a.min, .int .i64 a.pat, .string (S a.pre), .string (S a.met)] 23)).alloc (.cells #[.int .i64 b.maj, .int .i64 b.min, .int .i64 b.pat, .string (S b.pre), .string (S b.met)] 23)) w.heap.size 23 #[.int .i64 a.maj, .int .i64 a.min, .int .i64 a.pat, .string (S a.pre), .string (S a.met)] := (Blk.new _ _ _).alloc _
  have hB0 : Blk ((w.alloc (.cells #[.int .i64 a.maj, .int .i64 a.min, .int .i64 a.pat, .string (S a.pre), .string (S a.met)] 23)).alloc (.cells #[.int .i64 b.maj, .int .i64 b.min, .int .i64 b.pat, .string (S b.pre), .string (S b.met)] 23)) (w.heap.size + 1) 23 #[.int .i64 b.maj, .int .i64 b.min, .int .i64 b.pat, .string (S b.pre), .string (S b.met)] := Blk.new_ _ _ _ (by simp)
  have hb0 : Below w.heap.size w ((w.alloc (.cells #[.int .i64 a.maj, .int .i64 a.min, .int .i64 a.pat, .string (S a.pre), .string (S a.met)] 23)).alloc (.cells #[.int .i64 b.maj, .int .i64 b.min, .int .i64 b.pat, .string (S b.pre), .string (S b.met)] 23)) := ((Below.refl _ _).alloc (Nat.le_refl _) _).alloc (by simp) _
  have HOFA := hide hofa
  have HOFB := hide hofb
  have HCMP := hide hcmp
  clear hofa hofb hcmp ha hb hpa hpb
  go_enter Tryd.func10, Tryd.ntmps10
  go_wp2_with fail
  generalize hW0 : (w.alloc (.cells #[.int .i64 a.maj, .int .i64 a.min, .int .i64 a.pat, .string (S a.pre), .string (S a.met)] 23)).alloc (.cells #[.int .i64 b.maj, .int .i64 b.min, .int .i64 b.pat, .string (S b.pre), .string (S b.met)] 23) = W0 at *
  clear hW0
  have HA0 := hide hA0
  have HB0 := hide hB0
  have HL0 := hide hb0
  clear hA0 hB0 hb0
  obtain ⟨a0, a1, a2, a3, a4⟩ := cells5 HA0.out
  obtain ⟨b0, b1, b2, b3, b4⟩ := cells5 HB0.out
  go_region_held3 (fun w' => (w'.cell? ⟨w.heap.size, 0, none⟩ = some (.int .i64 a.maj) ∧ w'.cell? ⟨w.heap.size, 1, none⟩ = some (.int .i64 a.min) ∧ w'.cell? ⟨w.heap.size, 2, none⟩ = some (.int .i64 a.pat) ∧ w'.cell? ⟨w.heap.size, 3, none⟩ = some (.string (S a.pre)) ∧ w'.cell? ⟨w.heap.size, 4, none⟩ = some (.string (S a.met))) ∧ (w'.cell? ⟨w.heap.size + 1, 0, none⟩ = some (.int .i64 b.maj) ∧ w'.cell? ⟨w.heap.size + 1, 1, none⟩ = some (.int .i64 b.min) ∧ w'.cell? ⟨w.heap.size + 1, 2, none⟩ = some (.int .i64 b.pat) ∧ w'.cell? ⟨w.heap.size + 1, 3, none⟩ = some (.string (S b.pre)) ∧ w'.cell? ⟨w.heap.size + 1, 4, none⟩ = some (.string (S b.met)))) (first | exact ⟨cells5 HAz.out, cells5 HBz.out⟩ | exact ⟨cells5 HAy.out, cells5 HBy.out⟩ | exact ⟨cells5 HAx.out, cells5 HBx.out⟩ | go_keep)
    (first
      | (go_at_call 19
         with_reducible refine (HOFA.out _).mono ?_
         rintro e wx ⟨rfl, hbx⟩
         have HAx : Hid (Blk wx w.heap.size 23 #[.int .i64 a.maj, .int .i64 a.min, .int .i64 a.pat, .string (S a.pre), .string (S a.met)]) := (Blk.drew HA0.out).below hbx HA0.out.lt
         have HBx : Hid (Blk wx (w.heap.size + 1) 23 #[.int .i64 b.maj, .int .i64 b.min, .int .i64 b.pat, .string (S b.pre), .string (S b.met)]) := (Blk.drew HB0.out).below hbx HB0.out.lt
         have HX : Hid (Below w.heap.size w wx) := ((Chg.ofBelow HL0.out (fun _ => False)).drew.toBelow).trans (hbx.mono (by have := HL0.out.size; simp; omega))
         clear hbx)
      | (go_at_call 19
         with_reducible refine (HOFB.out _).mono ?_
         rintro e wy ⟨rfl, hby⟩
         have HAy : Hid (Blk wy w.heap.size 23 #[.int .i64 a.maj, .int .i64 a.min, .int .i64 a.pat, .string (S a.pre), .string (S a.met)]) := HAx.out.below hby HAx.out.lt
         have HBy : Hid (Blk wy (w.heap.size + 1) 23 #[.int .i64 b.maj, .int .i64 b.min, .int .i64 b.pat, .string (S b.pre), .string (S b.met)]) := HBx.out.below hby HBx.out.lt
         have HY : Hid (Below w.heap.size w wy) := HX.out.trans (hby.mono HX.out.size)
         clear hby)
      | (go_at_call 20
         with_reducible refine (HCMP.out _).mono ?_
         rintro e wz ⟨rfl, hbz⟩
         have HAz : Hid (Blk wz w.heap.size 23 #[.int .i64 a.maj, .int .i64 a.min, .int .i64 a.pat, .string (S a.pre), .string (S a.met)]) := HAy.out.below hbz HAy.out.lt
         have HBz : Hid (Blk wz (w.heap.size + 1) 23 #[.int .i64 b.maj, .int .i64 b.min, .int .i64 b.pat, .string (S b.pre), .string (S b.met)]) := HBy.out.below hbz HBy.out.lt
         have HZ : Hid (Below w.heap.size w wz) := HY.out.trans (hbz.mono HY.out.size)
         clear hbz)
      | fail)
  all_goals
    go_wp2_with fail
    go_ret
    exact ⟨rfl, HZ.out⟩

def vc1 : Ver := ⟨1, 0, 0, [], []⟩
def vc2 : Ver := ⟨2, 0, 0, [], []⟩
def vc0 : Ver := ⟨0, 0, 0, [], []⟩
def vc01 : Ver := ⟨0, 0, 1, [], []⟩
theorem const12 (W : World) : Calls Tryd.prog 10 #[.agg #[.int .i64 1, .int .i64 0, .int .i64 0, .string ⟨#[]⟩, .string ⟨#[]⟩], .agg #[.int .i64 2, .int .i64 0, .int .i64 0, .string ⟨#[]⟩, .string ⟨#[]⟩]] W fun e w' => e = .returned (.int .i64 (-1)) ∧ Below W.heap.size W w' :=
  icompare_any vc1 vc2 W (by decide) (by decide) (by decide) (by decide)
theorem const01 (W : World) : Calls Tryd.prog 10 #[.agg #[.int .i64 0, .int .i64 0, .int .i64 0, .string ⟨#[]⟩, .string ⟨#[]⟩], .agg #[.int .i64 0, .int .i64 0, .int .i64 1, .string ⟨#[]⟩, .string ⟨#[]⟩]] W fun e w' => e = .returned (.int .i64 (-1)) ∧ Below W.heap.size W w' :=
  icompare_any vc0 vc01 W (by decide) (by decide) (by decide) (by decide)

set_option maxHeartbeats 2000000 in
set_option maxRecDepth 100000 in
theorem law_fa (a b : Ver) (w : World) (hx : fitsV a = false) : Calls Tryd.prog 3 #[.agg a.cells, .agg b.cells] w fun e w' => e = .returned (.bool true) ∧ Below w.heap.size w w' := by
  have hfa := fun W => fits1_any a W
  have hfb := fun W => fits1_any b W
  have hva := fun W => version_any a W
  have hvb := fun W => version_any b W
  rw [hx] at hfa
  unfold Ver.cells at *
  have hA0 : Blk ((w.alloc (.cells #[.int .i64 a.maj, .int .i64 a.min, .int .i64 a.pat, .string (S a.pre), .string (S a.met)] 23)).alloc (.cells #[.int .i64 b.maj, .int .i64 b.min, .int .i64 b.pat, .string (S b.pre), .string (S b.met)] 23)) w.heap.size 23 #[.int .i64 a.maj, .int .i64 a.min, .int .i64 a.pat, .string (S a.pre), .string (S a.met)] := (Blk.new _ _ _).alloc _
  have hB0 : Blk ((w.alloc (.cells #[.int .i64 a.maj, .int .i64 a.min, .int .i64 a.pat, .string (S a.pre), .string (S a.met)] 23)).alloc (.cells #[.int .i64 b.maj, .int .i64 b.min, .int .i64 b.pat, .string (S b.pre), .string (S b.met)] 23)) (w.heap.size + 1) 23 #[.int .i64 b.maj, .int .i64 b.min, .int .i64 b.pat, .string (S b.pre), .string (S b.met)] := Blk.new_ _ _ _ (by simp)
  have hb0 : Below w.heap.size w ((w.alloc (.cells #[.int .i64 a.maj, .int .i64 a.min, .int .i64 a.pat, .string (S a.pre), .string (S a.met)] 23)).alloc (.cells #[.int .i64 b.maj, .int .i64 b.min, .int .i64 b.pat, .string (S b.pre), .string (S b.met)] 23)) := ((Below.refl _ _).alloc (Nat.le_refl _) _).alloc (by simp) _
  have HFA := hide hfa
  clear hfa hfb hva hvb
  go_enter Tryd.func3, Tryd.ntmps3
  go_wp2_with fail
  generalize hW0 : (w.alloc (.cells #[.int .i64 a.maj, .int .i64 a.min, .int .i64 a.pat, .string (S a.pre), .string (S a.met)] 23)).alloc (.cells #[.int .i64 b.maj, .int .i64 b.min, .int .i64 b.pat, .string (S b.pre), .string (S b.met)] 23) = W0 at *
  clear hW0
  have HA0 := hide hA0
  have HB0 := hide hB0
  have HL0 := hide hb0
  clear hA0 hB0 hb0
  obtain ⟨a0, a1, a2, a3, a4⟩ := cells5 HA0.out
  obtain ⟨b0, b1, b2, b3, b4⟩ := cells5 HB0.out
  go_wp2_with fail
  refine (HFA.out _).mono ?_
  rintro e w1 ⟨rfl, hb⟩
  have HAw1 : Hid (Blk w1 w.heap.size 23 #[.int .i64 a.maj, .int .i64 a.min, .int .i64 a.pat, .string (S a.pre), .string (S a.met)]) := HA0.out.below hb HA0.out.lt
  have HBw1 : Hid (Blk w1 (w.heap.size + 1) 23 #[.int .i64 b.maj, .int .i64 b.min, .int .i64 b.pat, .string (S b.pre), .string (S b.met)]) := HB0.out.below hb HB0.out.lt
  have HLw1 : Hid (Below w.heap.size w w1) := HL0.out.trans (hb.mono HL0.out.size)
  clear hb
  obtain ⟨a0w1, a1w1, a2w1, a3w1, a4w1⟩ := cells5 HAw1.out
  obtain ⟨b0w1, b1w1, b2w1, b3w1, b4w1⟩ := cells5 HBw1.out
  go_wp2_with fail
  go_ret
  exact ⟨rfl, HLw1.out⟩

set_option maxHeartbeats 2000000 in
set_option maxRecDepth 100000 in
theorem law_fb (a b : Ver) (w : World) (hx : fitsV a = true) (hy : fitsV b = false) : Calls Tryd.prog 3 #[.agg a.cells, .agg b.cells] w fun e w' => e = .returned (.bool true) ∧ Below w.heap.size w w' := by
  have hfa := fun W => fits1_any a W
  have hfb := fun W => fits1_any b W
  have hva := fun W => version_any a W
  have hvb := fun W => version_any b W
  rw [hx] at hfa
  rw [hy] at hfb
  unfold Ver.cells at *
  have hA0 : Blk ((w.alloc (.cells #[.int .i64 a.maj, .int .i64 a.min, .int .i64 a.pat, .string (S a.pre), .string (S a.met)] 23)).alloc (.cells #[.int .i64 b.maj, .int .i64 b.min, .int .i64 b.pat, .string (S b.pre), .string (S b.met)] 23)) w.heap.size 23 #[.int .i64 a.maj, .int .i64 a.min, .int .i64 a.pat, .string (S a.pre), .string (S a.met)] := (Blk.new _ _ _).alloc _
  have hB0 : Blk ((w.alloc (.cells #[.int .i64 a.maj, .int .i64 a.min, .int .i64 a.pat, .string (S a.pre), .string (S a.met)] 23)).alloc (.cells #[.int .i64 b.maj, .int .i64 b.min, .int .i64 b.pat, .string (S b.pre), .string (S b.met)] 23)) (w.heap.size + 1) 23 #[.int .i64 b.maj, .int .i64 b.min, .int .i64 b.pat, .string (S b.pre), .string (S b.met)] := Blk.new_ _ _ _ (by simp)
  have hb0 : Below w.heap.size w ((w.alloc (.cells #[.int .i64 a.maj, .int .i64 a.min, .int .i64 a.pat, .string (S a.pre), .string (S a.met)] 23)).alloc (.cells #[.int .i64 b.maj, .int .i64 b.min, .int .i64 b.pat, .string (S b.pre), .string (S b.met)] 23)) := ((Below.refl _ _).alloc (Nat.le_refl _) _).alloc (by simp) _
  have HFA := hide hfa
  have HFB := hide hfb
  clear hfa hfb hva hvb
  go_enter Tryd.func3, Tryd.ntmps3
  go_wp2_with fail
  generalize hW0 : (w.alloc (.cells #[.int .i64 a.maj, .int .i64 a.min, .int .i64 a.pat, .string (S a.pre), .string (S a.met)] 23)).alloc (.cells #[.int .i64 b.maj, .int .i64 b.min, .int .i64 b.pat, .string (S b.pre), .string (S b.met)] 23) = W0 at *
  clear hW0
  have HA0 := hide hA0
  have HB0 := hide hB0
  have HL0 := hide hb0
  clear hA0 hB0 hb0
  obtain ⟨a0, a1, a2, a3, a4⟩ := cells5 HA0.out
  obtain ⟨b0, b1, b2, b3, b4⟩ := cells5 HB0.out
  go_wp2_with fail
  refine (HFA.out _).mono ?_
  rintro e w1 ⟨rfl, hb⟩
  have HAw1 : Hid (Blk w1 w.heap.size 23 #[.int .i64 a.maj, .int .i64 a.min, .int .i64 a.pat, .string (S a.pre), .string (S a.met)]) := HA0.out.below hb HA0.out.lt
  have HBw1 : Hid (Blk w1 (w.heap.size + 1) 23 #[.int .i64 b.maj, .int .i64 b.min, .int .i64 b.pat, .string (S b.pre), .string (S b.met)]) := HB0.out.below hb HB0.out.lt
  have HLw1 : Hid (Below w.heap.size w w1) := HL0.out.trans (hb.mono HL0.out.size)
  clear hb
  obtain ⟨a0w1, a1w1, a2w1, a3w1, a4w1⟩ := cells5 HAw1.out
  obtain ⟨b0w1, b1w1, b2w1, b3w1, b4w1⟩ := cells5 HBw1.out
  go_wp2_with fail
  refine (HFB.out _).mono ?_
  rintro e w2 ⟨rfl, hb⟩
  have HAw2 : Hid (Blk w2 w.heap.size 23 #[.int .i64 a.maj, .int .i64 a.min, .int .i64 a.pat, .string (S a.pre), .string (S a.met)]) := HAw1.out.below hb HAw1.out.lt
  have HBw2 : Hid (Blk w2 (w.heap.size + 1) 23 #[.int .i64 b.maj, .int .i64 b.min, .int .i64 b.pat, .string (S b.pre), .string (S b.met)]) := HBw1.out.below hb HBw1.out.lt
  have HLw2 : Hid (Below w.heap.size w w2) := HLw1.out.trans (hb.mono HLw1.out.size)
  clear hb
  obtain ⟨a0w2, a1w2, a2w2, a3w2, a4w2⟩ := cells5 HAw2.out
  obtain ⟨b0w2, b1w2, b2w2, b3w2, b4w2⟩ := cells5 HBw2.out
  go_wp2_with fail
  go_ret
  exact ⟨rfl, HLw2.out⟩

set_option maxHeartbeats 2000000 in
set_option maxRecDepth 100000 in
theorem law_pa (a b : Ver) (w : World) (hx : fitsV a = true) (hy : fitsV b = true) (hp : properB a = false) : Calls Tryd.prog 3 #[.agg a.cells, .agg b.cells] w fun e w' => e = .returned (.bool true) ∧ Below w.heap.size w w' := by
  have hfa := fun W => fits1_any a W
  have hfb := fun W => fits1_any b W
  have hva := fun W => version_any a W
  have hvb := fun W => version_any b W
  have hsz : a.pre.length ≤ 8589934591 ∧ a.met.length ≤ 8589934591 ∧ b.pre.length ≤ 8589934591 ∧ b.met.length ≤ 8589934591 := by
    simp [fitsV] at hx hy
    omega
  have hpra := fun W => proper_any a W hsz.1 hsz.2.1
  have hprb := fun W => proper_any b W hsz.2.2.1 hsz.2.2.2
  unfold ProperOut at hpra hprb
  rw [hx] at hfa
  rw [hy] at hfb
  rw [hp] at hpra
  unfold Ver.cells at *
  have hA0 : Blk ((w.alloc (.cells #[.int .i64 a.maj, .int .i64 a.min, .int .i64 a.pat, .string (S a.pre), .string (S a.met)] 23)).alloc (.cells #[.int .i64 b.maj, .int .i64 b.min, .int .i64 b.pat, .string (S b.pre), .string (S b.met)] 23)) w.heap.size 23 #[.int .i64 a.maj, .int .i64 a.min, .int .i64 a.pat, .string (S a.pre), .string (S a.met)] := (Blk.new _ _ _).alloc _
  have hB0 : Blk ((w.alloc (.cells #[.int .i64 a.maj, .int .i64 a.min, .int .i64 a.pat, .string (S a.pre), .string (S a.met)] 23)).alloc (.cells #[.int .i64 b.maj, .int .i64 b.min, .int .i64 b.pat, .string (S b.pre), .string (S b.met)] 23)) (w.heap.size + 1) 23 #[.int .i64 b.maj, .int .i64 b.min, .int .i64 b.pat, .string (S b.pre), .string (S b.met)] := Blk.new_ _ _ _ (by simp)
  have hb0 : Below w.heap.size w ((w.alloc (.cells #[.int .i64 a.maj, .int .i64 a.min, .int .i64 a.pat, .string (S a.pre), .string (S a.met)] 23)).alloc (.cells #[.int .i64 b.maj, .int .i64 b.min, .int .i64 b.pat, .string (S b.pre), .string (S b.met)] 23)) := ((Below.refl _ _).alloc (Nat.le_refl _) _).alloc (by simp) _
  have HFA := hide hfa
  have HFB := hide hfb
  have HVA := hide hva
  have HPRA := hide hpra
  clear hfa hfb hva hvb hpra hprb hsz
  go_enter Tryd.func3, Tryd.ntmps3
  go_wp2_with fail
  generalize hW0 : (w.alloc (.cells #[.int .i64 a.maj, .int .i64 a.min, .int .i64 a.pat, .string (S a.pre), .string (S a.met)] 23)).alloc (.cells #[.int .i64 b.maj, .int .i64 b.min, .int .i64 b.pat, .string (S b.pre), .string (S b.met)] 23) = W0 at *
  clear hW0
  have HA0 := hide hA0
  have HB0 := hide hB0
  have HL0 := hide hb0
  clear hA0 hB0 hb0
  obtain ⟨a0, a1, a2, a3, a4⟩ := cells5 HA0.out
  obtain ⟨b0, b1, b2, b3, b4⟩ := cells5 HB0.out
  go_wp2_with fail
  refine (HFA.out _).mono ?_
  rintro e w1 ⟨rfl, hb⟩
  have HAw1 : Hid (Blk w1 w.heap.size 23 #[.int .i64 a.maj, .int .i64 a.min, .int .i64 a.pat, .string (S a.pre), .string (S a.met)]) := HA0.out.below hb HA0.out.lt
  have HBw1 : Hid (Blk w1 (w.heap.size + 1) 23 #[.int .i64 b.maj, .int .i64 b.min, .int .i64 b.pat, .string (S b.pre), .string (S b.met)]) := HB0.out.below hb HB0.out.lt
  have HLw1 : Hid (Below w.heap.size w w1) := HL0.out.trans (hb.mono HL0.out.size)
  clear hb
  obtain ⟨a0w1, a1w1, a2w1, a3w1, a4w1⟩ := cells5 HAw1.out
  obtain ⟨b0w1, b1w1, b2w1, b3w1, b4w1⟩ := cells5 HBw1.out
  go_wp2_with fail
  refine (HFB.out _).mono ?_
  rintro e w2 ⟨rfl, hb⟩
  have HAw2 : Hid (Blk w2 w.heap.size 23 #[.int .i64 a.maj, .int .i64 a.min, .int .i64 a.pat, .string (S a.pre), .string (S a.met)]) := HAw1.out.below hb HAw1.out.lt
  have HBw2 : Hid (Blk w2 (w.heap.size + 1) 23 #[.int .i64 b.maj, .int .i64 b.min, .int .i64 b.pat, .string (S b.pre), .string (S b.met)]) := HBw1.out.below hb HBw1.out.lt
  have HLw2 : Hid (Below w.heap.size w w2) := HLw1.out.trans (hb.mono HLw1.out.size)
  clear hb
  obtain ⟨a0w2, a1w2, a2w2, a3w2, a4w2⟩ := cells5 HAw2.out
  obtain ⟨b0w2, b1w2, b2w2, b3w2, b4w2⟩ := cells5 HBw2.out
  go_wp2_with fail
  refine (HVA.out _).mono ?_
  rintro e w3 ⟨rfl, hb⟩
  have HAw3 : Hid (Blk w3 w.heap.size 23 #[.int .i64 a.maj, .int .i64 a.min, .int .i64 a.pat, .string (S a.pre), .string (S a.met)]) := HAw2.out.below hb HAw2.out.lt
  have HBw3 : Hid (Blk w3 (w.heap.size + 1) 23 #[.int .i64 b.maj, .int .i64 b.min, .int .i64 b.pat, .string (S b.pre), .string (S b.met)]) := HBw2.out.below hb HBw2.out.lt
  have HLw3 : Hid (Below w.heap.size w w3) := HLw2.out.trans (hb.mono HLw2.out.size)
  clear hb
  obtain ⟨a0w3, a1w3, a2w3, a3w3, a4w3⟩ := cells5 HAw3.out
  obtain ⟨b0w3, b1w3, b2w3, b3w3, b4w3⟩ := cells5 HBw3.out
  go_wp2_with fail
  refine (HPRA.out _).mono ?_
  rintro e w4 ⟨rfl, hb⟩
  have HAw4 : Hid (Blk w4 w.heap.size 23 #[.int .i64 a.maj, .int .i64 a.min, .int .i64 a.pat, .string (S a.pre), .string (S a.met)]) := HAw3.out.below hb HAw3.out.lt
  have HBw4 : Hid (Blk w4 (w.heap.size + 1) 23 #[.int .i64 b.maj, .int .i64 b.min, .int .i64 b.pat, .string (S b.pre), .string (S b.met)]) := HBw3.out.below hb HBw3.out.lt
  have HLw4 : Hid (Below w.heap.size w w4) := HLw3.out.trans (hb.mono HLw3.out.size)
  clear hb
  obtain ⟨a0w4, a1w4, a2w4, a3w4, a4w4⟩ := cells5 HAw4.out
  obtain ⟨b0w4, b1w4, b2w4, b3w4, b4w4⟩ := cells5 HBw4.out
  go_wp2_with fail
  refine (const12 _).mono ?_
  rintro e w5 ⟨rfl, hb⟩
  have HAw5 : Hid (Blk w5 w.heap.size 23 #[.int .i64 a.maj, .int .i64 a.min, .int .i64 a.pat, .string (S a.pre), .string (S a.met)]) := HAw4.out.below hb HAw4.out.lt
  have HBw5 : Hid (Blk w5 (w.heap.size + 1) 23 #[.int .i64 b.maj, .int .i64 b.min, .int .i64 b.pat, .string (S b.pre), .string (S b.met)]) := HBw4.out.below hb HBw4.out.lt
  have HLw5 : Hid (Below w.heap.size w w5) := HLw4.out.trans (hb.mono HLw4.out.size)
  clear hb
  obtain ⟨a0w5, a1w5, a2w5, a3w5, a4w5⟩ := cells5 HAw5.out
  obtain ⟨b0w5, b1w5, b2w5, b3w5, b4w5⟩ := cells5 HBw5.out
  go_wp2_with fail
  go_ret
  exact ⟨rfl, HLw5.out⟩

set_option maxHeartbeats 2000000 in
set_option maxRecDepth 100000 in
theorem law_pb (a b : Ver) (w : World) (hx : fitsV a = true) (hy : fitsV b = true) (hp : properB a = true) (hq : properB b = false) : Calls Tryd.prog 3 #[.agg a.cells, .agg b.cells] w fun e w' => e = .returned (.bool true) ∧ Below w.heap.size w w' := by
  have hfa := fun W => fits1_any a W
  have hfb := fun W => fits1_any b W
  have hva := fun W => version_any a W
  have hvb := fun W => version_any b W
  have hsz : a.pre.length ≤ 8589934591 ∧ a.met.length ≤ 8589934591 ∧ b.pre.length ≤ 8589934591 ∧ b.met.length ≤ 8589934591 := by
    simp [fitsV] at hx hy
    omega
  have hpra := fun W => proper_any a W hsz.1 hsz.2.1
  have hprb := fun W => proper_any b W hsz.2.2.1 hsz.2.2.2
  unfold ProperOut at hpra hprb
  rw [hx] at hfa
  rw [hy] at hfb
  rw [hp] at hpra
  rw [hq] at hprb
  unfold Ver.cells at *
  have hA0 : Blk ((w.alloc (.cells #[.int .i64 a.maj, .int .i64 a.min, .int .i64 a.pat, .string (S a.pre), .string (S a.met)] 23)).alloc (.cells #[.int .i64 b.maj, .int .i64 b.min, .int .i64 b.pat, .string (S b.pre), .string (S b.met)] 23)) w.heap.size 23 #[.int .i64 a.maj, .int .i64 a.min, .int .i64 a.pat, .string (S a.pre), .string (S a.met)] := (Blk.new _ _ _).alloc _
  have hB0 : Blk ((w.alloc (.cells #[.int .i64 a.maj, .int .i64 a.min, .int .i64 a.pat, .string (S a.pre), .string (S a.met)] 23)).alloc (.cells #[.int .i64 b.maj, .int .i64 b.min, .int .i64 b.pat, .string (S b.pre), .string (S b.met)] 23)) (w.heap.size + 1) 23 #[.int .i64 b.maj, .int .i64 b.min, .int .i64 b.pat, .string (S b.pre), .string (S b.met)] := Blk.new_ _ _ _ (by simp)
  have hb0 : Below w.heap.size w ((w.alloc (.cells #[.int .i64 a.maj, .int .i64 a.min, .int .i64 a.pat, .string (S a.pre), .string (S a.met)] 23)).alloc (.cells #[.int .i64 b.maj, .int .i64 b.min, .int .i64 b.pat, .string (S b.pre), .string (S b.met)] 23)) := ((Below.refl _ _).alloc (Nat.le_refl _) _).alloc (by simp) _
  have HFA := hide hfa
  have HFB := hide hfb
  have HVA := hide hva
  have HVB := hide hvb
  have HPRA := hide hpra
  have HPRB := hide hprb
  clear hfa hfb hva hvb hpra hprb hsz
  go_enter Tryd.func3, Tryd.ntmps3
  go_wp2_with fail
  generalize hW0 : (w.alloc (.cells #[.int .i64 a.maj, .int .i64 a.min, .int .i64 a.pat, .string (S a.pre), .string (S a.met)] 23)).alloc (.cells #[.int .i64 b.maj, .int .i64 b.min, .int .i64 b.pat, .string (S b.pre), .string (S b.met)] 23) = W0 at *
  clear hW0
  have HA0 := hide hA0
  have HB0 := hide hB0
  have HL0 := hide hb0
  clear hA0 hB0 hb0
  obtain ⟨a0, a1, a2, a3, a4⟩ := cells5 HA0.out
  obtain ⟨b0, b1, b2, b3, b4⟩ := cells5 HB0.out
  go_wp2_with fail
  refine (HFA.out _).mono ?_
  rintro e w1 ⟨rfl, hb⟩
  have HAw1 : Hid (Blk w1 w.heap.size 23 #[.int .i64 a.maj, .int .i64 a.min, .int .i64 a.pat, .string (S a.pre), .string (S a.met)]) := HA0.out.below hb HA0.out.lt
  have HBw1 : Hid (Blk w1 (w.heap.size + 1) 23 #[.int .i64 b.maj, .int .i64 b.min, .int .i64 b.pat, .string (S b.pre), .string (S b.met)]) := HB0.out.below hb HB0.out.lt
  have HLw1 : Hid (Below w.heap.size w w1) := HL0.out.trans (hb.mono HL0.out.size)
  clear hb
  obtain ⟨a0w1, a1w1, a2w1, a3w1, a4w1⟩ := cells5 HAw1.out
  obtain ⟨b0w1, b1w1, b2w1, b3w1, b4w1⟩ := cells5 HBw1.out
  go_wp2_with fail
  refine (HFB.out _).mono ?_
  rintro e w2 ⟨rfl, hb⟩
  have HAw2 : Hid (Blk w2 w.heap.size 23 #[.int .i64 a.maj, .int .i64 a.min, .int .i64 a.pat, .string (S a.pre), .string (S a.met)]) := HAw1.out.below hb HAw1.out.lt
  have HBw2 : Hid (Blk w2 (w.heap.size + 1) 23 #[.int .i64 b.maj, .int .i64 b.min, .int .i64 b.pat, .string (S b.pre), .string (S b.met)]) := HBw1.out.below hb HBw1.out.lt
  have HLw2 : Hid (Below w.heap.size w w2) := HLw1.out.trans (hb.mono HLw1.out.size)
  clear hb
  obtain ⟨a0w2, a1w2, a2w2, a3w2, a4w2⟩ := cells5 HAw2.out
  obtain ⟨b0w2, b1w2, b2w2, b3w2, b4w2⟩ := cells5 HBw2.out
  go_wp2_with fail
  refine (HVA.out _).mono ?_
  rintro e w3 ⟨rfl, hb⟩
  have HAw3 : Hid (Blk w3 w.heap.size 23 #[.int .i64 a.maj, .int .i64 a.min, .int .i64 a.pat, .string (S a.pre), .string (S a.met)]) := HAw2.out.below hb HAw2.out.lt
  have HBw3 : Hid (Blk w3 (w.heap.size + 1) 23 #[.int .i64 b.maj, .int .i64 b.min, .int .i64 b.pat, .string (S b.pre), .string (S b.met)]) := HBw2.out.below hb HBw2.out.lt
  have HLw3 : Hid (Below w.heap.size w w3) := HLw2.out.trans (hb.mono HLw2.out.size)
  clear hb
  obtain ⟨a0w3, a1w3, a2w3, a3w3, a4w3⟩ := cells5 HAw3.out
  obtain ⟨b0w3, b1w3, b2w3, b3w3, b4w3⟩ := cells5 HBw3.out
  go_wp2_with fail
  refine (HPRA.out _).mono ?_
  rintro e w4 ⟨rfl, hb⟩
  have HAw4 : Hid (Blk w4 w.heap.size 23 #[.int .i64 a.maj, .int .i64 a.min, .int .i64 a.pat, .string (S a.pre), .string (S a.met)]) := HAw3.out.below hb HAw3.out.lt
  have HBw4 : Hid (Blk w4 (w.heap.size + 1) 23 #[.int .i64 b.maj, .int .i64 b.min, .int .i64 b.pat, .string (S b.pre), .string (S b.met)]) := HBw3.out.below hb HBw3.out.lt
  have HLw4 : Hid (Below w.heap.size w w4) := HLw3.out.trans (hb.mono HLw3.out.size)
  clear hb
  obtain ⟨a0w4, a1w4, a2w4, a3w4, a4w4⟩ := cells5 HAw4.out
  obtain ⟨b0w4, b1w4, b2w4, b3w4, b4w4⟩ := cells5 HBw4.out
  go_wp2_with fail
  refine (HVB.out _).mono ?_
  rintro e w5 ⟨rfl, hb⟩
  have HAw5 : Hid (Blk w5 w.heap.size 23 #[.int .i64 a.maj, .int .i64 a.min, .int .i64 a.pat, .string (S a.pre), .string (S a.met)]) := HAw4.out.below hb HAw4.out.lt
  have HBw5 : Hid (Blk w5 (w.heap.size + 1) 23 #[.int .i64 b.maj, .int .i64 b.min, .int .i64 b.pat, .string (S b.pre), .string (S b.met)]) := HBw4.out.below hb HBw4.out.lt
  have HLw5 : Hid (Below w.heap.size w w5) := HLw4.out.trans (hb.mono HLw4.out.size)
  clear hb
  obtain ⟨a0w5, a1w5, a2w5, a3w5, a4w5⟩ := cells5 HAw5.out
  obtain ⟨b0w5, b1w5, b2w5, b3w5, b4w5⟩ := cells5 HBw5.out
  go_wp2_with fail
  refine (HPRB.out _).mono ?_
  rintro e w6 ⟨rfl, hb⟩
  have HAw6 : Hid (Blk w6 w.heap.size 23 #[.int .i64 a.maj, .int .i64 a.min, .int .i64 a.pat, .string (S a.pre), .string (S a.met)]) := HAw5.out.below hb HAw5.out.lt
  have HBw6 : Hid (Blk w6 (w.heap.size + 1) 23 #[.int .i64 b.maj, .int .i64 b.min, .int .i64 b.pat, .string (S b.pre), .string (S b.met)]) := HBw5.out.below hb HBw5.out.lt
  have HLw6 : Hid (Below w.heap.size w w6) := HLw5.out.trans (hb.mono HLw5.out.size)
  clear hb
  obtain ⟨a0w6, a1w6, a2w6, a3w6, a4w6⟩ := cells5 HAw6.out
  obtain ⟨b0w6, b1w6, b2w6, b3w6, b4w6⟩ := cells5 HBw6.out
  go_wp2_with fail
  refine (const12 _).mono ?_
  rintro e w7 ⟨rfl, hb⟩
  have HAw7 : Hid (Blk w7 w.heap.size 23 #[.int .i64 a.maj, .int .i64 a.min, .int .i64 a.pat, .string (S a.pre), .string (S a.met)]) := HAw6.out.below hb HAw6.out.lt
  have HBw7 : Hid (Blk w7 (w.heap.size + 1) 23 #[.int .i64 b.maj, .int .i64 b.min, .int .i64 b.pat, .string (S b.pre), .string (S b.met)]) := HBw6.out.below hb HBw6.out.lt
  have HLw7 : Hid (Below w.heap.size w w7) := HLw6.out.trans (hb.mono HLw6.out.size)
  clear hb
  obtain ⟨a0w7, a1w7, a2w7, a3w7, a4w7⟩ := cells5 HAw7.out
  obtain ⟨b0w7, b1w7, b2w7, b3w7, b4w7⟩ := cells5 HBw7.out
  go_wp2_with fail
  go_ret
  exact ⟨rfl, HLw7.out⟩

set_option maxHeartbeats 2000000 in
set_option maxRecDepth 100000 in
theorem law_pp (a b : Ver) (w : World) (hx : fitsV a = true) (hy : fitsV b = true) (hp : properB a = true) (hq : properB b = true) : Calls Tryd.prog 3 #[.agg a.cells, .agg b.cells] w fun e w' => e = .returned (.bool true) ∧ Below w.heap.size w w' := by
  have hfa := fun W => fits1_any a W
  have hfb := fun W => fits1_any b W
  have hva := fun W => version_any a W
  have hvb := fun W => version_any b W
  have hsz : a.pre.length ≤ 8589934591 ∧ a.met.length ≤ 8589934591 ∧ b.pre.length ≤ 8589934591 ∧ b.met.length ≤ 8589934591 := by
    simp [fitsV] at hx hy
    omega
  have hpra := fun W => proper_any a W hsz.1 hsz.2.1
  have hprb := fun W => proper_any b W hsz.2.2.1 hsz.2.2.2
  unfold ProperOut at hpra hprb
  have hshort : ∀ v : Ver, properB v = true → shortB v.pre = true := fun v h => by
    unfold properB at h
    simp only [Bool.and_eq_true, Bool.or_eq_true] at h
    rcases h.1.2 with h | h
    · rw [List.isEmpty_iff.1 h]; decide
    · exact h.2
  have hcmp := fun W => scompare_any a b W hsz.1 hsz.2.2.1 (hshort a hp) (hshort b hq)
  have hab := fun W => icompare_any a b W hsz.1 hsz.2.2.1 hp hq
  have hba := fun W => icompare_any b a W hsz.2.2.1 hsz.1 hq hp
  rw [verC_neg a b] at hba
  have hvc := verC_cases a b
  unfold CmpOut at hcmp hab hba
  rw [hx] at hfa
  rw [hy] at hfb
  rw [hp] at hpra
  rw [hq] at hprb
  generalize verC a b = r at *
  unfold Ver.cells at *
  have hA0 : Blk ((w.alloc (.cells #[.int .i64 a.maj, .int .i64 a.min, .int .i64 a.pat, .string (S a.pre), .string (S a.met)] 23)).alloc (.cells #[.int .i64 b.maj, .int .i64 b.min, .int .i64 b.pat, .string (S b.pre), .string (S b.met)] 23)) w.heap.size 23 #[.int .i64 a.maj, .int .i64 a.min, .int .i64 a.pat, .string (S a.pre), .string (S a.met)] := (Blk.new _ _ _).alloc _
  have hB0 : Blk ((w.alloc (.cells #[.int .i64 a.maj, .int .i64 a.min, .int .i64 a.pat, .string (S a.pre), .string (S a.met)] 23)).alloc (.cells #[.int .i64 b.maj, .int .i64 b.min, .int .i64 b.pat, .string (S b.pre), .string (S b.met)] 23)) (w.heap.size + 1) 23 #[.int .i64 b.maj, .int .i64 b.min, .int .i64 b.pat, .string (S b.pre), .string (S b.met)] := Blk.new_ _ _ _ (by simp)
  have hb0 : Below w.heap.size w ((w.alloc (.cells #[.int .i64 a.maj, .int .i64 a.min, .int .i64 a.pat, .string (S a.pre), .string (S a.met)] 23)).alloc (.cells #[.int .i64 b.maj, .int .i64 b.min, .int .i64 b.pat, .string (S b.pre), .string (S b.met)] 23)) := ((Below.refl _ _).alloc (Nat.le_refl _) _).alloc (by simp) _
  have HFA := hide hfa
  have HFB := hide hfb
  have HVA := hide hva
  have HVB := hide hvb
  have HPRA := hide hpra
  have HPRB := hide hprb
  have HCMP := hide hcmp
  have HAB := hide hab
  have HBA := hide hba
  have HOFA := hide hva
  have HOFB := hide hvb
  clear hfa hfb hva hvb hpra hprb hsz hcmp hab hba hshort
  go_enter Tryd.func3, Tryd.ntmps3
  go_wp2_with fail
  generalize hW0 : (w.alloc (.cells #[.int .i64 a.maj, .int .i64 a.min, .int .i64 a.pat, .string (S a.pre), .string (S a.met)] 23)).alloc (.cells #[.int .i64 b.maj, .int .i64 b.min, .int .i64 b.pat, .string (S b.pre), .string (S b.met)] 23) = W0 at *
  clear hW0
  have HA0 := hide hA0
  have HB0 := hide hB0
  have HL0 := hide hb0
  clear hA0 hB0 hb0
  obtain ⟨a0, a1, a2, a3, a4⟩ := cells5 HA0.out
  obtain ⟨b0, b1, b2, b3, b4⟩ := cells5 HB0.out
  go_wp2_with fail
  refine (HFA.out _).mono ?_
  rintro e w1 ⟨rfl, hb⟩
  have HAw1 : Hid (Blk w1 w.heap.size 23 #[.int .i64 a.maj, .int .i64 a.min, .int .i64 a.pat, .string (S a.pre), .string (S a.met)]) := HA0.out.below hb HA0.out.lt
  have HBw1 : Hid (Blk w1 (w.heap.size + 1) 23 #[.int .i64 b.maj, .int .i64 b.min, .int .i64 b.pat, .string (S b.pre), .string (S b.met)]) := HB0.out.below hb HB0.out.lt
  have HLw1 : Hid (Below w.heap.size w w1) := HL0.out.trans (hb.mono HL0.out.size)
  clear hb
  obtain ⟨a0w1, a1w1, a2w1, a3w1, a4w1⟩ := cells5 HAw1.out
  obtain ⟨b0w1, b1w1, b2w1, b3w1, b4w1⟩ := cells5 HBw1.out
  go_wp2_with fail
  refine (HFB.out _).mono ?_
  rintro e w2 ⟨rfl, hb⟩
  have HAw2 : Hid (Blk w2 w.heap.size 23 #[.int .i64 a.maj, .int .i64 a.min, .int .i64 a.pat, .string (S a.pre), .string (S a.met)]) := HAw1.out.below hb HAw1.out.lt
  have HBw2 : Hid (Blk w2 (w.heap.size + 1) 23 #[.int .i64 b.maj, .int .i64 b.min, .int .i64 b.pat, .string (S b.pre), .string (S b.met)]) := HBw1.out.below hb HBw1.out.lt
  have HLw2 : Hid (Below w.heap.size w w2) := HLw1.out.trans (hb.mono HLw1.out.size)
  clear hb
  obtain ⟨a0w2, a1w2, a2w2, a3w2, a4w2⟩ := cells5 HAw2.out
  obtain ⟨b0w2, b1w2, b2w2, b3w2, b4w2⟩ := cells5 HBw2.out
  go_wp2_with fail
  refine (HVA.out _).mono ?_
  rintro e w3 ⟨rfl, hb⟩
  have HAw3 : Hid (Blk w3 w.heap.size 23 #[.int .i64 a.maj, .int .i64 a.min, .int .i64 a.pat, .string (S a.pre), .string (S a.met)]) := HAw2.out.below hb HAw2.out.lt
  have HBw3 : Hid (Blk w3 (w.heap.size + 1) 23 #[.int .i64 b.maj, .int .i64 b.min, .int .i64 b.pat, .string (S b.pre), .string (S b.met)]) := HBw2.out.below hb HBw2.out.lt
  have HLw3 : Hid (Below w.heap.size w w3) := HLw2.out.trans (hb.mono HLw2.out.size)
  clear hb
  obtain ⟨a0w3, a1w3, a2w3, a3w3, a4w3⟩ := cells5 HAw3.out
  obtain ⟨b0w3, b1w3, b2w3, b3w3, b4w3⟩ := cells5 HBw3.out
  go_wp2_with fail
  refine (HPRA.out _).mono ?_
  rintro e w4 ⟨rfl, hb⟩
  have HAw4 : Hid (Blk w4 w.heap.size 23 #[.int .i64 a.maj, .int .i64 a.min, .int .i64 a.pat, .string (S a.pre), .string (S a.met)]) := HAw3.out.below hb HAw3.out.lt
  have HBw4 : Hid (Blk w4 (w.heap.size + 1) 23 #[.int .i64 b.maj, .int .i64 b.min, .int .i64 b.pat, .string (S b.pre), .string (S b.met)]) := HBw3.out.below hb HBw3.out.lt
  have HLw4 : Hid (Below w.heap.size w w4) := HLw3.out.trans (hb.mono HLw3.out.size)
  clear hb
  obtain ⟨a0w4, a1w4, a2w4, a3w4, a4w4⟩ := cells5 HAw4.out
  obtain ⟨b0w4, b1w4, b2w4, b3w4, b4w4⟩ := cells5 HBw4.out
  go_wp2_with fail
  refine (HVB.out _).mono ?_
  rintro e w5 ⟨rfl, hb⟩
  have HAw5 : Hid (Blk w5 w.heap.size 23 #[.int .i64 a.maj, .int .i64 a.min, .int .i64 a.pat, .string (S a.pre), .string (S a.met)]) := HAw4.out.below hb HAw4.out.lt
  have HBw5 : Hid (Blk w5 (w.heap.size + 1) 23 #[.int .i64 b.maj, .int .i64 b.min, .int .i64 b.pat, .string (S b.pre), .string (S b.met)]) := HBw4.out.below hb HBw4.out.lt
  have HLw5 : Hid (Below w.heap.size w w5) := HLw4.out.trans (hb.mono HLw4.out.size)
  clear hb
  obtain ⟨a0w5, a1w5, a2w5, a3w5, a4w5⟩ := cells5 HAw5.out
  obtain ⟨b0w5, b1w5, b2w5, b3w5, b4w5⟩ := cells5 HBw5.out
  go_wp2_with fail
  refine (HPRB.out _).mono ?_
  rintro e w6 ⟨rfl, hb⟩
  have HAw6 : Hid (Blk w6 w.heap.size 23 #[.int .i64 a.maj, .int .i64 a.min, .int .i64 a.pat, .string (S a.pre), .string (S a.met)]) := HAw5.out.below hb HAw5.out.lt
  have HBw6 : Hid (Blk w6 (w.heap.size + 1) 23 #[.int .i64 b.maj, .int .i64 b.min, .int .i64 b.pat, .string (S b.pre), .string (S b.met)]) := HBw5.out.below hb HBw5.out.lt
  have HLw6 : Hid (Below w.heap.size w w6) := HLw5.out.trans (hb.mono HLw5.out.size)
  clear hb
  obtain ⟨a0w6, a1w6, a2w6, a3w6, a4w6⟩ := cells5 HAw6.out
  obtain ⟨b0w6, b1w6, b2w6, b3w6, b4w6⟩ := cells5 HBw6.out
  have hr1 : -9223372036854775808 ≤ r ∧ r ≤ 9223372036854775807 ∧ -9223372036854775808 ≤ -r ∧ -r ≤ 9223372036854775807 := by omega
  have hw1 : IntKind.i64.wrap (-r) = -r := by rw [IntKind.wrap_i64]; omega
  clear hvc
  go_wp2_with fail
  go_region_held3 (fun w' => (w'.cell? ⟨w.heap.size, 0, none⟩ = some (.int .i64 a.maj) ∧ w'.cell? ⟨w.heap.size, 1, none⟩ = some (.int .i64 a.min) ∧ w'.cell? ⟨w.heap.size, 2, none⟩ = some (.int .i64 a.pat) ∧ w'.cell? ⟨w.heap.size, 3, none⟩ = some (.string (S a.pre)) ∧ w'.cell? ⟨w.heap.size, 4, none⟩ = some (.string (S a.met))) ∧ (w'.cell? ⟨w.heap.size + 1, 0, none⟩ = some (.int .i64 b.maj) ∧ w'.cell? ⟨w.heap.size + 1, 1, none⟩ = some (.int .i64 b.min) ∧ w'.cell? ⟨w.heap.size + 1, 2, none⟩ = some (.int .i64 b.pat) ∧ w'.cell? ⟨w.heap.size + 1, 3, none⟩ = some (.string (S b.pre)) ∧ w'.cell? ⟨w.heap.size + 1, 4, none⟩ = some (.string (S b.met)))) (first | exact ⟨cells5 HAz.out, cells5 HBz.out⟩ | exact ⟨cells5 HAy.out, cells5 HBy.out⟩ | exact ⟨cells5 HAx.out, cells5 HBx.out⟩ | go_keep)
    (first
      | (go_at_call 9
         with_reducible refine (HOFA.out _).mono ?_
         rintro e wx ⟨rfl, hbx⟩
         have HAx : Hid (Blk wx w.heap.size 23 #[.int .i64 a.maj, .int .i64 a.min, .int .i64 a.pat, .string (S a.pre), .string (S a.met)]) := (Blk.drew HAw6.out).below hbx HAw6.out.lt
         have HBx : Hid (Blk wx (w.heap.size + 1) 23 #[.int .i64 b.maj, .int .i64 b.min, .int .i64 b.pat, .string (S b.pre), .string (S b.met)]) := (Blk.drew HBw6.out).below hbx HBw6.out.lt
         have HX : Hid (Below w.heap.size w wx) := ((Chg.ofBelow HLw6.out (fun _ => False)).drew.toBelow).trans (hbx.mono (by have := HLw6.out.size; simp; omega))
         clear hbx)
      | (go_at_call 9
         with_reducible refine (HOFB.out _).mono ?_
         rintro e wy ⟨rfl, hby⟩
         have HAy : Hid (Blk wy w.heap.size 23 #[.int .i64 a.maj, .int .i64 a.min, .int .i64 a.pat, .string (S a.pre), .string (S a.met)]) := HAx.out.below hby HAx.out.lt
         have HBy : Hid (Blk wy (w.heap.size + 1) 23 #[.int .i64 b.maj, .int .i64 b.min, .int .i64 b.pat, .string (S b.pre), .string (S b.met)]) := HBx.out.below hby HBx.out.lt
         have HY : Hid (Below w.heap.size w wy) := HX.out.trans (hby.mono HX.out.size)
         clear hby)
      | (go_at_call 11
         with_reducible refine (HCMP.out _).mono ?_
         rintro e wz ⟨rfl, hbz⟩
         have HAz : Hid (Blk wz w.heap.size 23 #[.int .i64 a.maj, .int .i64 a.min, .int .i64 a.pat, .string (S a.pre), .string (S a.met)]) := HAy.out.below hbz HAy.out.lt
         have HBz : Hid (Blk wz (w.heap.size + 1) 23 #[.int .i64 b.maj, .int .i64 b.min, .int .i64 b.pat, .string (S b.pre), .string (S b.met)]) := HBy.out.below hbz HBy.out.lt
         have HZ : Hid (Below w.heap.size w wz) := HY.out.trans (hbz.mono HY.out.size)
         clear hbz)
      | fail)
  obtain ⟨a0z, a1z, a2z, a3z, a4z⟩ := cells5 HAz.out
  obtain ⟨b0z, b1z, b2z, b3z, b4z⟩ := cells5 HBz.out
  have HLwz := HZ
  have HAwz := HAz
  have HBwz := HBz
  go_wp2_with fail
  refine (HAB.out _).mono ?_
  rintro e w8 ⟨rfl, hb⟩
  have HAw8 : Hid (Blk w8 w.heap.size 23 #[.int .i64 a.maj, .int .i64 a.min, .int .i64 a.pat, .string (S a.pre), .string (S a.met)]) := HAwz.out.below hb HAwz.out.lt
  have HBw8 : Hid (Blk w8 (w.heap.size + 1) 23 #[.int .i64 b.maj, .int .i64 b.min, .int .i64 b.pat, .string (S b.pre), .string (S b.met)]) := HBwz.out.below hb HBwz.out.lt
  have HLw8 : Hid (Below w.heap.size w w8) := HLwz.out.trans (hb.mono HLwz.out.size)
  clear hb
  obtain ⟨a0w8, a1w8, a2w8, a3w8, a4w8⟩ := cells5 HAw8.out
  obtain ⟨b0w8, b1w8, b2w8, b3w8, b4w8⟩ := cells5 HBw8.out
  go_wp2_with fail
  refine (HBA.out _).mono ?_
  rintro e w9 ⟨rfl, hb⟩
  have HAw9 : Hid (Blk w9 w.heap.size 23 #[.int .i64 a.maj, .int .i64 a.min, .int .i64 a.pat, .string (S a.pre), .string (S a.met)]) := HAw8.out.below hb HAw8.out.lt
  have HBw9 : Hid (Blk w9 (w.heap.size + 1) 23 #[.int .i64 b.maj, .int .i64 b.min, .int .i64 b.pat, .string (S b.pre), .string (S b.met)]) := HBw8.out.below hb HBw8.out.lt
  have HLw9 : Hid (Below w.heap.size w w9) := HLw8.out.trans (hb.mono HLw8.out.size)
  clear hb
  obtain ⟨a0w9, a1w9, a2w9, a3w9, a4w9⟩ := cells5 HAw9.out
  obtain ⟨b0w9, b1w9, b2w9, b3w9, b4w9⟩ := cells5 HBw9.out
  go_wp2_with fail
  refine (const01 _).mono ?_
  rintro e w10 ⟨rfl, hb⟩
  have HAw10 : Hid (Blk w10 w.heap.size 23 #[.int .i64 a.maj, .int .i64 a.min, .int .i64 a.pat, .string (S a.pre), .string (S a.met)]) := HAw9.out.below hb HAw9.out.lt
  have HBw10 : Hid (Blk w10 (w.heap.size + 1) 23 #[.int .i64 b.maj, .int .i64 b.min, .int .i64 b.pat, .string (S b.pre), .string (S b.met)]) := HBw9.out.below hb HBw9.out.lt
  have HLw10 : Hid (Below w.heap.size w w10) := HLw9.out.trans (hb.mono HLw9.out.size)
  clear hb
  obtain ⟨a0w10, a1w10, a2w10, a3w10, a4w10⟩ := cells5 HAw10.out
  obtain ⟨b0w10, b1w10, b2w10, b3w10, b4w10⟩ := cells5 HBw10.out
  go_wp2_with fail
  go_ret
  exact ⟨rfl, HLw10.out⟩

theorem fnCompare_any (a b : Ver) (w : World) : Calls Tryd.prog 3 #[.agg a.cells, .agg b.cells] w fun e w' => e = .returned (.bool true) ∧ Below w.heap.size w w' := by
  cases hx : fitsV a
  · exact law_fa a b w hx
  cases hy : fitsV b
  · exact law_fb a b w hx hy
  cases hp : properB a
  · exact law_pa a b w hx hy hp
  cases hq : properB b
  · exact law_pb a b w hx hy hp hq
  exact law_pp a b w hx hy hp hq
end Go.Proofs.YtaoeelhgfdknfaaDoor
