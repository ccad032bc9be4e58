/- The walk of spec.Proper. Printed by gen_w5.py. -/
import Derived.Test.YtaoeelhgfdknfaaDoorW4
namespace Go.Proofs.YtaoeelhgfdknfaaDoor
open Go.RowKit

attribute [local go_sem] S_size S_toList E_toList S_extract

def Ver.cells (v : Ver) : Array Value := #[.int .i64 v.maj, .int .i64 v.min, .int .i64 v.pat, .string (S v.pre), .string (S v.met)]
def ProperOut (v : Ver) (w : World) (e : Ending) (w' : World) : Prop := e = .returned (.bool (properB v)) ∧ Below w.heap.size w w'
theorem below_new (w : World) (cs : Array Value) (t : TypeId) : Below w.heap.size w (w.alloc (.cells cs t)) ∧ Blk (w.alloc (.cells cs t)) w.heap.size t cs := ⟨(Below.refl _ _).alloc (Nat.le_refl _) _, Blk.new _ _ _⟩

set_option maxHeartbeats 1000000 in
set_option maxRecDepth 100000 in
theorem proper_0 (v : Ver) (w : World) (_hp : v.pre.length ≤ 8589934591) (_hm : v.met.length ≤ 8589934591)  (h0 : ¬ (0 ≤ v.maj)) : Calls Tryd.prog 8 #[.agg v.cells] w (ProperOut v w) := by
  have hr : properB v = false := by
    unfold properB
    rw [decide_eq_false h0]
    simp
  have HR := hide hr
  have q0 : decide (0 ≤ v.maj) = false := decide_eq_false h0
  clear hr h0
  have hb0 := below_new w #[.int .i64 v.maj, .int .i64 v.min, .int .i64 v.pat, .string (S v.pre), .string (S v.met)] 26
  have HB0 := hide hb0
  clear hb0
  unfold Ver.cells
  go_enter Tryd.func8, Tryd.ntmps8
  go_wp2
  all_goals
    go_ret
    exact ⟨by rw [HR.out]; rfl, HB0.out.1⟩

set_option maxHeartbeats 1000000 in
set_option maxRecDepth 100000 in
theorem proper_1 (v : Ver) (w : World) (_hp : v.pre.length ≤ 8589934591) (_hm : v.met.length ≤ 8589934591) (h0 : 0 ≤ v.maj) (h1 : ¬ (0 ≤ v.min)) : Calls Tryd.prog 8 #[.agg v.cells] w (ProperOut v w) := by
  have hr : properB v = false := by
    unfold properB
    rw [decide_eq_false h1]
    simp
  have HR := hide hr
  have q1 : decide (0 ≤ v.min) = false := decide_eq_false h1
  clear hr h1
  have hb0 := below_new w #[.int .i64 v.maj, .int .i64 v.min, .int .i64 v.pat, .string (S v.pre), .string (S v.met)] 26
  have HB0 := hide hb0
  clear hb0
  unfold Ver.cells
  go_enter Tryd.func8, Tryd.ntmps8
  go_wp2
  all_goals
    go_ret
    exact ⟨by rw [HR.out]; rfl, HB0.out.1⟩

set_option maxHeartbeats 1000000 in
set_option maxRecDepth 100000 in
theorem proper_2 (v : Ver) (w : World) (_hp : v.pre.length ≤ 8589934591) (_hm : v.met.length ≤ 8589934591) (h0 : 0 ≤ v.maj) (h1 : 0 ≤ v.min) (h2 : ¬ (0 ≤ v.pat)) : Calls Tryd.prog 8 #[.agg v.cells] w (ProperOut v w) := by
  have hr : properB v = false := by
    unfold properB
    rw [decide_eq_false h2]
    simp
  have HR := hide hr
  have q2 : decide (0 ≤ v.pat) = false := decide_eq_false h2
  clear hr h2
  have hb0 := below_new w #[.int .i64 v.maj, .int .i64 v.min, .int .i64 v.pat, .string (S v.pre), .string (S v.met)] 26
  have HB0 := hide hb0
  clear hb0
  unfold Ver.cells
  go_enter Tryd.func8, Tryd.ntmps8
  go_wp2
  all_goals
    go_ret
    exact ⟨by rw [HR.out]; rfl, HB0.out.1⟩

set_option maxHeartbeats 1000000 in
set_option maxRecDepth 100000 in
theorem proper_3 (v : Ver) (w : World) (_hp : v.pre.length ≤ 8589934591) (_hm : v.met.length ≤ 8589934591) (h0 : 0 ≤ v.maj) (h1 : 0 ≤ v.min) (h2 : 0 ≤ v.pat) (h3 : ¬ (v.maj < 1000000000000000000)) : Calls Tryd.prog 8 #[.agg v.cells] w (ProperOut v w) := by
  have hr : properB v = false := by
    unfold properB
    rw [decide_eq_false h3]
    simp
  have HR := hide hr
  have q3 : decide (v.maj < 1000000000000000000) = false := decide_eq_false h3
  clear hr h3
  have hb0 := below_new w #[.int .i64 v.maj, .int .i64 v.min, .int .i64 v.pat, .string (S v.pre), .string (S v.met)] 26
  have HB0 := hide hb0
  clear hb0
  unfold Ver.cells
  go_enter Tryd.func8, Tryd.ntmps8
  go_wp2
  all_goals
    go_ret
    exact ⟨by rw [HR.out]; rfl, HB0.out.1⟩

set_option maxHeartbeats 1000000 in
set_option maxRecDepth 100000 in
theorem proper_4 (v : Ver) (w : World) (_hp : v.pre.length ≤ 8589934591) (_hm : v.met.length ≤ 8589934591) (h0 : 0 ≤ v.maj) (h1 : 0 ≤ v.min) (h2 : 0 ≤ v.pat) (h3 : v.maj < 1000000000000000000) (h4 : ¬ (v.min < 1000000000000000000)) : Calls Tryd.prog 8 #[.agg v.cells] w (ProperOut v w) := by
  have hr : properB v = false := by
    unfold properB
    rw [decide_eq_false h4]
    simp
  have HR := hide hr
  have q4 : decide (v.min < 1000000000000000000) = false := decide_eq_false h4
  clear hr h4
  have hb0 := below_new w #[.int .i64 v.maj, .int .i64 v.min, .int .i64 v.pat, .string (S v.pre), .string (S v.met)] 26
  have HB0 := hide hb0
  clear hb0
  unfold Ver.cells
  go_enter Tryd.func8, Tryd.ntmps8
  go_wp2
  all_goals
    go_ret
    exact ⟨by rw [HR.out]; rfl, HB0.out.1⟩

set_option maxHeartbeats 1000000 in
set_option maxRecDepth 100000 in
theorem proper_5 (v : Ver) (w : World) (_hp : v.pre.length ≤ 8589934591) (_hm : v.met.length ≤ 8589934591) (h0 : 0 ≤ v.maj) (h1 : 0 ≤ v.min) (h2 : 0 ≤ v.pat) (h3 : v.maj < 1000000000000000000) (h4 : v.min < 1000000000000000000) (h5 : ¬ (v.pat < 1000000000000000000)) : Calls Tryd.prog 8 #[.agg v.cells] w (ProperOut v w) := by
  have hr : properB v = false := by
    unfold properB
    rw [decide_eq_false h5]
    simp
  have HR := hide hr
  have q5 : decide (v.pat < 1000000000000000000) = false := decide_eq_false h5
  clear hr h5
  have hb0 := below_new w #[.int .i64 v.maj, .int .i64 v.min, .int .i64 v.pat, .string (S v.pre), .string (S v.met)] 26
  have HB0 := hide hb0
  clear hb0
  unfold Ver.cells
  go_enter Tryd.func8, Tryd.ntmps8
  go_wp2
  all_goals
    go_ret
    exact ⟨by rw [HR.out]; rfl, HB0.out.1⟩

set_option maxHeartbeats 1000000 in
set_option maxRecDepth 100000 in
theorem proper_ee (v : Ver) (w : World) (_hp : v.pre.length ≤ 8589934591) (_hm : v.met.length ≤ 8589934591) (h0 : 0 ≤ v.maj) (h1 : 0 ≤ v.min) (h2 : 0 ≤ v.pat) (h3 : v.maj < 1000000000000000000) (h4 : v.min < 1000000000000000000) (h5 : v.pat < 1000000000000000000) (hpre : v.pre.isEmpty = true) (hmet : v.met.isEmpty = true) : Calls Tryd.prog 8 #[.agg v.cells] w (ProperOut v w) := by
  have hr : properB v = true := by
    unfold properB
    simp [h0, h1, h2, h3, h4, h5, hpre, hmet]
  have HR := hide hr
  clear hr
  have hb0 := below_new w #[.int .i64 v.maj, .int .i64 v.min, .int .i64 v.pat, .string (S v.pre), .string (S v.met)] 26
  have HB0 := hide hb0
  clear hb0
  unfold Ver.cells
  go_enter Tryd.func8, Tryd.ntmps8
  go_wp2_with fail
  all_goals
    go_ret
    exact ⟨by rw [HR.out]; rfl, HB0.out.1⟩

set_option maxHeartbeats 1000000 in
set_option maxRecDepth 100000 in
theorem proper_ef (v : Ver) (w : World) (_hp : v.pre.length ≤ 8589934591) (_hm : v.met.length ≤ 8589934591) (h0 : 0 ≤ v.maj) (h1 : 0 ≤ v.min) (h2 : 0 ≤ v.pat) (h3 : v.maj < 1000000000000000000) (h4 : v.min < 1000000000000000000) (h5 : v.pat < 1000000000000000000) (hpre : v.pre.isEmpty = true) (hmet : v.met.isEmpty = false) (hmi : identsB v.met = false) : Calls Tryd.prog 8 #[.agg v.cells] w (ProperOut v w) := by
  have hr : properB v = false := by
    unfold properB
    simp [h0, h1, h2, h3, h4, h5, hpre, hmet, hmi]
  have HR := hide hr
  clear hr
  have hb0 := below_new w #[.int .i64 v.maj, .int .i64 v.min, .int .i64 v.pat, .string (S v.pre), .string (S v.met)] 26
  have HB0 := hide hb0
  clear hb0
  unfold Ver.cells
  go_enter Tryd.func8, Tryd.ntmps8
  go_wp2_with fail
  refine (identifiers_any v.met _ (by omega)).mono ?_
  rintro e w1 ⟨rfl, hb⟩
  have HB1 : Hid (Below w.heap.size w w1 ∧ Blk w1 w.heap.size 26 #[.int .i64 v.maj, .int .i64 v.min, .int .i64 v.pat, .string (S v.pre), .string (S v.met)]) := ⟨HB0.out.1.trans (hb.mono HB0.out.1.size), HB0.out.2.below hb HB0.out.2.lt⟩
  have c10 : w1.cell? ⟨w.heap.size, 3, none⟩ = some (.string (S v.pre)) := by rw [HB1.out.2.cell]; rfl
  have c11 : w1.cell? ⟨w.heap.size, 4, none⟩ = some (.string (S v.met)) := by rw [HB1.out.2.cell]; rfl
  clear hb
  rw [hmi]
  go_wp2_with fail
  all_goals
    go_ret
    exact ⟨by rw [HR.out]; rfl, HB1.out.1⟩

set_option maxHeartbeats 1000000 in
set_option maxRecDepth 100000 in
theorem proper_et (v : Ver) (w : World) (_hp : v.pre.length ≤ 8589934591) (_hm : v.met.length ≤ 8589934591) (h0 : 0 ≤ v.maj) (h1 : 0 ≤ v.min) (h2 : 0 ≤ v.pat) (h3 : v.maj < 1000000000000000000) (h4 : v.min < 1000000000000000000) (h5 : v.pat < 1000000000000000000) (hpre : v.pre.isEmpty = true) (hmet : v.met.isEmpty = false) (hmi : identsB v.met = true) : Calls Tryd.prog 8 #[.agg v.cells] w (ProperOut v w) := by
  have hr : properB v = true := by
    unfold properB
    simp [h0, h1, h2, h3, h4, h5, hpre, hmet, hmi]
  have HR := hide hr
  clear hr
  have hb0 := below_new w #[.int .i64 v.maj, .int .i64 v.min, .int .i64 v.pat, .string (S v.pre), .string (S v.met)] 26
  have HB0 := hide hb0
  clear hb0
  unfold Ver.cells
  go_enter Tryd.func8, Tryd.ntmps8
  go_wp2_with fail
  refine (identifiers_any v.met _ (by omega)).mono ?_
  rintro e w1 ⟨rfl, hb⟩
  have HB1 : Hid (Below w.heap.size w w1 ∧ Blk w1 w.heap.size 26 #[.int .i64 v.maj, .int .i64 v.min, .int .i64 v.pat, .string (S v.pre), .string (S v.met)]) := ⟨HB0.out.1.trans (hb.mono HB0.out.1.size), HB0.out.2.below hb HB0.out.2.lt⟩
  have c10 : w1.cell? ⟨w.heap.size, 3, none⟩ = some (.string (S v.pre)) := by rw [HB1.out.2.cell]; rfl
  have c11 : w1.cell? ⟨w.heap.size, 4, none⟩ = some (.string (S v.met)) := by rw [HB1.out.2.cell]; rfl
  clear hb
  rw [hmi]
  go_wp2_with fail
  all_goals
    go_ret
    exact ⟨by rw [HR.out]; rfl, HB1.out.1⟩

set_option maxHeartbeats 1000000 in
set_option maxRecDepth 100000 in
theorem proper_i (v : Ver) (w : World) (_hp : v.pre.length ≤ 8589934591) (_hm : v.met.length ≤ 8589934591) (h0 : 0 ≤ v.maj) (h1 : 0 ≤ v.min) (h2 : 0 ≤ v.pat) (h3 : v.maj < 1000000000000000000) (h4 : v.min < 1000000000000000000) (h5 : v.pat < 1000000000000000000) (hpre : v.pre.isEmpty = false) (hi : identsB v.pre = false) : Calls Tryd.prog 8 #[.agg v.cells] w (ProperOut v w) := by
  have hr : properB v = false := by
    unfold properB
    simp [h0, h1, h2, h3, h4, h5, hpre, hi]
  have HR := hide hr
  clear hr
  have hb0 := below_new w #[.int .i64 v.maj, .int .i64 v.min, .int .i64 v.pat, .string (S v.pre), .string (S v.met)] 26
  have HB0 := hide hb0
  clear hb0
  unfold Ver.cells
  go_enter Tryd.func8, Tryd.ntmps8
  go_wp2_with fail
  refine (identifiers_any v.pre _ (by omega)).mono ?_
  rintro e w1 ⟨rfl, hb⟩
  have HB1 : Hid (Below w.heap.size w w1 ∧ Blk w1 w.heap.size 26 #[.int .i64 v.maj, .int .i64 v.min, .int .i64 v.pat, .string (S v.pre), .string (S v.met)]) := ⟨HB0.out.1.trans (hb.mono HB0.out.1.size), HB0.out.2.below hb HB0.out.2.lt⟩
  have c10 : w1.cell? ⟨w.heap.size, 3, none⟩ = some (.string (S v.pre)) := by rw [HB1.out.2.cell]; rfl
  have c11 : w1.cell? ⟨w.heap.size, 4, none⟩ = some (.string (S v.met)) := by rw [HB1.out.2.cell]; rfl
  clear hb
  rw [hi]
  go_wp2_with fail
  all_goals
    go_ret
    exact ⟨by rw [HR.out]; rfl, HB1.out.1⟩

set_option maxHeartbeats 1000000 in
set_option maxRecDepth 100000 in
theorem proper_l (v : Ver) (w : World) (_hp : v.pre.length ≤ 8589934591) (_hm : v.met.length ≤ 8589934591) (h0 : 0 ≤ v.maj) (h1 : 0 ≤ v.min) (h2 : 0 ≤ v.pat) (h3 : v.maj < 1000000000000000000) (h4 : v.min < 1000000000000000000) (h5 : v.pat < 1000000000000000000) (hpre : v.pre.isEmpty = false) (hi : identsB v.pre = true) (hl : leadingB v.pre = true) : Calls Tryd.prog 8 #[.agg v.cells] w (ProperOut v w) := by
  have hr : properB v = false := by
    unfold properB
    simp [h0, h1, h2, h3, h4, h5, hpre, hi, hl]
  have HR := hide hr
  clear hr
  have hb0 := below_new w #[.int .i64 v.maj, .int .i64 v.min, .int .i64 v.pat, .string (S v.pre), .string (S v.met)] 26
  have HB0 := hide hb0
  clear hb0
  unfold Ver.cells
  go_enter Tryd.func8, Tryd.ntmps8
  go_wp2_with fail
  refine (identifiers_any v.pre _ (by omega)).mono ?_
  rintro e w1 ⟨rfl, hb⟩
  have HB1 : Hid (Below w.heap.size w w1 ∧ Blk w1 w.heap.size 26 #[.int .i64 v.maj, .int .i64 v.min, .int .i64 v.pat, .string (S v.pre), .string (S v.met)]) := ⟨HB0.out.1.trans (hb.mono HB0.out.1.size), HB0.out.2.below hb HB0.out.2.lt⟩
  have c10 : w1.cell? ⟨w.heap.size, 3, none⟩ = some (.string (S v.pre)) := by rw [HB1.out.2.cell]; rfl
  have c11 : w1.cell? ⟨w.heap.size, 4, none⟩ = some (.string (S v.met)) := by rw [HB1.out.2.cell]; rfl
  clear hb
  rw [hi]
  go_wp2_with fail
  refine (leading_any v.pre _ (by omega)).mono ?_
  rintro e w2 ⟨rfl, hb⟩
  have HB2 : Hid (Below w.heap.size w w2 ∧ Blk w2 w.heap.size 26 #[.int .i64 v.maj, .int .i64 v.min, .int .i64 v.pat, .string (S v.pre), .string (S v.met)]) := ⟨HB1.out.1.trans (hb.mono HB1.out.1.size), HB1.out.2.below hb HB1.out.2.lt⟩
  have c20 : w2.cell? ⟨w.heap.size, 3, none⟩ = some (.string (S v.pre)) := by rw [HB2.out.2.cell]; rfl
  have c21 : w2.cell? ⟨w.heap.size, 4, none⟩ = some (.string (S v.met)) := by rw [HB2.out.2.cell]; rfl
  clear hb
  rw [hl]
  go_wp2_with fail
  all_goals
    go_ret
    exact ⟨by rw [HR.out]; rfl, HB2.out.1⟩

set_option maxHeartbeats 1000000 in
set_option maxRecDepth 100000 in
theorem proper_s (v : Ver) (w : World) (_hp : v.pre.length ≤ 8589934591) (_hm : v.met.length ≤ 8589934591) (h0 : 0 ≤ v.maj) (h1 : 0 ≤ v.min) (h2 : 0 ≤ v.pat) (h3 : v.maj < 1000000000000000000) (h4 : v.min < 1000000000000000000) (h5 : v.pat < 1000000000000000000) (hpre : v.pre.isEmpty = false) (hi : identsB v.pre = true) (hl : leadingB v.pre = false) (hs : shortB v.pre = false) : Calls Tryd.prog 8 #[.agg v.cells] w (ProperOut v w) := by
  have hr : properB v = false := by
    unfold properB
    simp [h0, h1, h2, h3, h4, h5, hpre, hi, hl, hs]
  have HR := hide hr
  clear hr
  have hb0 := below_new w #[.int .i64 v.maj, .int .i64 v.min, .int .i64 v.pat, .string (S v.pre), .string (S v.met)] 26
  have HB0 := hide hb0
  clear hb0
  unfold Ver.cells
  go_enter Tryd.func8, Tryd.ntmps8
  go_wp2_with fail
  refine (identifiers_any v.pre _ (by omega)).mono ?_
  rintro e w1 ⟨rfl, hb⟩
  have HB1 : Hid (Below w.heap.size w w1 ∧ Blk w1 w.heap.size 26 #[.int .i64 v.maj, .int .i64 v.min, .int .i64 v.pat, .string (S v.pre), .string (S v.met)]) := ⟨HB0.out.1.trans (hb.mono HB0.out.1.size), HB0.out.2.below hb HB0.out.2.lt⟩
  have c10 : w1.cell? ⟨w.heap.size, 3, none⟩ = some (.string (S v.pre)) := by rw [HB1.out.2.cell]; rfl
  have c11 : w1.cell? ⟨w.heap.size, 4, none⟩ = some (.string (S v.met)) := by rw [HB1.out.2.cell]; rfl
  clear hb
  rw [hi]
  go_wp2_with fail
  refine (leading_any v.pre _ (by omega)).mono ?_
  rintro e w2 ⟨rfl, hb⟩
  have HB2 : Hid (Below w.heap.size w w2 ∧ Blk w2 w.heap.size 26 #[.int .i64 v.maj, .int .i64 v.min, .int .i64 v.pat, .string (S v.pre), .string (S v.met)]) := ⟨HB1.out.1.trans (hb.mono HB1.out.1.size), HB1.out.2.below hb HB1.out.2.lt⟩
  have c20 : w2.cell? ⟨w.heap.size, 3, none⟩ = some (.string (S v.pre)) := by rw [HB2.out.2.cell]; rfl
  have c21 : w2.cell? ⟨w.heap.size, 4, none⟩ = some (.string (S v.met)) := by rw [HB2.out.2.cell]; rfl
  clear hb
  rw [hl]
  go_wp2_with fail
  refine (short_any v.pre _ (by omega)).mono ?_
  rintro e w3 ⟨rfl, hb⟩
  have HB3 : Hid (Below w.heap.size w w3 ∧ Blk w3 w.heap.size 26 #[.int .i64 v.maj, .int .i64 v.min, .int .i64 v.pat, .string (S v.pre), .string (S v.met)]) := ⟨HB2.out.1.trans (hb.mono HB2.out.1.size), HB2.out.2.below hb HB2.out.2.lt⟩
  have c30 : w3.cell? ⟨w.heap.size, 3, none⟩ = some (.string (S v.pre)) := by rw [HB3.out.2.cell]; rfl
  have c31 : w3.cell? ⟨w.heap.size, 4, none⟩ = some (.string (S v.met)) := by rw [HB3.out.2.cell]; rfl
  clear hb
  rw [hs]
  go_wp2_with fail
  all_goals
    go_ret
    exact ⟨by rw [HR.out]; rfl, HB3.out.1⟩

set_option maxHeartbeats 1000000 in
set_option maxRecDepth 100000 in
theorem proper_oe (v : Ver) (w : World) (_hp : v.pre.length ≤ 8589934591) (_hm : v.met.length ≤ 8589934591) (h0 : 0 ≤ v.maj) (h1 : 0 ≤ v.min) (h2 : 0 ≤ v.pat) (h3 : v.maj < 1000000000000000000) (h4 : v.min < 1000000000000000000) (h5 : v.pat < 1000000000000000000) (hpre : v.pre.isEmpty = false) (hi : identsB v.pre = true) (hl : leadingB v.pre = false) (hs : shortB v.pre = true) (hmet : v.met.isEmpty = true) : Calls Tryd.prog 8 #[.agg v.cells] w (ProperOut v w) := by
  have hr : properB v = true := by
    unfold properB
    simp [h0, h1, h2, h3, h4, h5, hpre, hi, hl, hs, hmet]
  have HR := hide hr
  clear hr
  have hb0 := below_new w #[.int .i64 v.maj, .int .i64 v.min, .int .i64 v.pat, .string (S v.pre), .string (S v.met)] 26
  have HB0 := hide hb0
  clear hb0
  unfold Ver.cells
  go_enter Tryd.func8, Tryd.ntmps8
  go_wp2_with fail
  refine (identifiers_any v.pre _ (by omega)).mono ?_
  rintro e w1 ⟨rfl, hb⟩
  have HB1 : Hid (Below w.heap.size w w1 ∧ Blk w1 w.heap.size 26 #[.int .i64 v.maj, .int .i64 v.min, .int .i64 v.pat, .string (S v.pre), .string (S v.met)]) := ⟨HB0.out.1.trans (hb.mono HB0.out.1.size), HB0.out.2.below hb HB0.out.2.lt⟩
  have c10 : w1.cell? ⟨w.heap.size, 3, none⟩ = some (.string (S v.pre)) := by rw [HB1.out.2.cell]; rfl
  have c11 : w1.cell? ⟨w.heap.size, 4, none⟩ = some (.string (S v.met)) := by rw [HB1.out.2.cell]; rfl
  clear hb
  rw [hi]
  go_wp2_with fail
  refine (leading_any v.pre _ (by omega)).mono ?_
  rintro e w2 ⟨rfl, hb⟩
  have HB2 : Hid (Below w.heap.size w w2 ∧ Blk w2 w.heap.size 26 #[.int .i64 v.maj, .int .i64 v.min, .int .i64 v.pat, .string (S v.pre), .string (S v.met)]) := ⟨HB1.out.1.trans (hb.mono HB1.out.1.size), HB1.out.2.below hb HB1.out.2.lt⟩
  have c20 : w2.cell? ⟨w.heap.size, 3, none⟩ = some (.string (S v.pre)) := by rw [HB2.out.2.cell]; rfl
  have c21 : w2.cell? ⟨w.heap.size, 4, none⟩ = some (.string (S v.met)) := by rw [HB2.out.2.cell]; rfl
  clear hb
  rw [hl]
  go_wp2_with fail
  refine (short_any v.pre _ (by omega)).mono ?_
  rintro e w3 ⟨rfl, hb⟩
  have HB3 : Hid (Below w.heap.size w w3 ∧ Blk w3 w.heap.size 26 #[.int .i64 v.maj, .int .i64 v.min, .int .i64 v.pat, .string (S v.pre), .string (S v.met)]) := ⟨HB2.out.1.trans (hb.mono HB2.out.1.size), HB2.out.2.below hb HB2.out.2.lt⟩
  have c30 : w3.cell? ⟨w.heap.size, 3, none⟩ = some (.string (S v.pre)) := by rw [HB3.out.2.cell]; rfl
  have c31 : w3.cell? ⟨w.heap.size, 4, none⟩ = some (.string (S v.met)) := by rw [HB3.out.2.cell]; rfl
  clear hb
  rw [hs]
  go_wp2_with fail
  all_goals
    go_ret
    exact ⟨by rw [HR.out]; rfl, HB3.out.1⟩

set_option maxHeartbeats 1000000 in
set_option maxRecDepth 100000 in
theorem proper_of (v : Ver) (w : World) (_hp : v.pre.length ≤ 8589934591) (_hm : v.met.length ≤ 8589934591) (h0 : 0 ≤ v.maj) (h1 : 0 ≤ v.min) (h2 : 0 ≤ v.pat) (h3 : v.maj < 1000000000000000000) (h4 : v.min < 1000000000000000000) (h5 : v.pat < 1000000000000000000) (hpre : v.pre.isEmpty = false) (hi : identsB v.pre = true) (hl : leadingB v.pre = false) (hs : shortB v.pre = true) (hmet : v.met.isEmpty = false) (hmi : identsB v.met = false) : Calls Tryd.prog 8 #[.agg v.cells] w (ProperOut v w) := by
  have hr : properB v = false := by
    unfold properB
    simp [h0, h1, h2, h3, h4, h5, hpre, hi, hl, hs, hmet, hmi]
  have HR := hide hr
  clear hr
  have hb0 := below_new w #[.int .i64 v.maj, .int .i64 v.min, .int .i64 v.pat, .string (S v.pre), .string (S v.met)] 26
  have HB0 := hide hb0
  clear hb0
  unfold Ver.cells
  go_enter Tryd.func8, Tryd.ntmps8
  go_wp2_with fail
  refine (identifiers_any v.pre _ (by omega)).mono ?_
  rintro e w1 ⟨rfl, hb⟩
  have HB1 : Hid (Below w.heap.size w w1 ∧ Blk w1 w.heap.size 26 #[.int .i64 v.maj, .int .i64 v.min, .int .i64 v.pat, .string (S v.pre), .string (S v.met)]) := ⟨HB0.out.1.trans (hb.mono HB0.out.1.size), HB0.out.2.below hb HB0.out.2.lt⟩
  have c10 : w1.cell? ⟨w.heap.size, 3, none⟩ = some (.string (S v.pre)) := by rw [HB1.out.2.cell]; rfl
  have c11 : w1.cell? ⟨w.heap.size, 4, none⟩ = some (.string (S v.met)) := by rw [HB1.out.2.cell]; rfl
  clear hb
  rw [hi]
  go_wp2_with fail
  refine (leading_any v.pre _ (by omega)).mono ?_
  rintro e w2 ⟨rfl, hb⟩
  have HB2 : Hid (Below w.heap.size w w2 ∧ Blk w2 w.heap.size 26 #[.int .i64 v.maj, .int .i64 v.min, .int .i64 v.pat, .string (S v.pre), .string (S v.met)]) := ⟨HB1.out.1.trans (hb.mono HB1.out.1.size), HB1.out.2.below hb HB1.out.2.lt⟩
  have c20 : w2.cell? ⟨w.heap.size, 3, none⟩ = some (.string (S v.pre)) := by rw [HB2.out.2.cell]; rfl
  have c21 : w2.cell? ⟨w.heap.size, 4, none⟩ = some (.string (S v.met)) := by rw [HB2.out.2.cell]; rfl
  clear hb
  rw [hl]
  go_wp2_with fail
  refine (short_any v.pre _ (by omega)).mono ?_
  rintro e w3 ⟨rfl, hb⟩
  have HB3 : Hid (Below w.heap.size w w3 ∧ Blk w3 w.heap.size 26 #[.int .i64 v.maj, .int .i64 v.min, .int .i64 v.pat, .string (S v.pre), .string (S v.met)]) := ⟨HB2.out.1.trans (hb.mono HB2.out.1.size), HB2.out.2.below hb HB2.out.2.lt⟩
  have c30 : w3.cell? ⟨w.heap.size, 3, none⟩ = some (.string (S v.pre)) := by rw [HB3.out.2.cell]; rfl
  have c31 : w3.cell? ⟨w.heap.size, 4, none⟩ = some (.string (S v.met)) := by rw [HB3.out.2.cell]; rfl
  clear hb
  rw [hs]
  go_wp2_with fail
  refine (identifiers_any v.met _ (by omega)).mono ?_
  rintro e w4 ⟨rfl, hb⟩
  have HB4 : Hid (Below w.heap.size w w4 ∧ Blk w4 w.heap.size 26 #[.int .i64 v.maj, .int .i64 v.min, .int .i64 v.pat, .string (S v.pre), .string (S v.met)]) := ⟨HB3.out.1.trans (hb.mono HB3.out.1.size), HB3.out.2.below hb HB3.out.2.lt⟩
  have c40 : w4.cell? ⟨w.heap.size, 3, none⟩ = some (.string (S v.pre)) := by rw [HB4.out.2.cell]; rfl
  have c41 : w4.cell? ⟨w.heap.size, 4, none⟩ = some (.string (S v.met)) := by rw [HB4.out.2.cell]; rfl
  clear hb
  rw [hmi]
  go_wp2_with fail
  all_goals
    go_ret
    exact ⟨by rw [HR.out]; rfl, HB4.out.1⟩

set_option maxHeartbeats 1000000 in
set_option maxRecDepth 100000 in
theorem proper_ot (v : Ver) (w : World) (_hp : v.pre.length ≤ 8589934591) (_hm : v.met.length ≤ 8589934591) (h0 : 0 ≤ v.maj) (h1 : 0 ≤ v.min) (h2 : 0 ≤ v.pat) (h3 : v.maj < 1000000000000000000) (h4 : v.min < 1000000000000000000) (h5 : v.pat < 1000000000000000000) (hpre : v.pre.isEmpty = false) (hi : identsB v.pre = true) (hl : leadingB v.pre = false) (hs : shortB v.pre = true) (hmet : v.met.isEmpty = false) (hmi : identsB v.met = true) : Calls Tryd.prog 8 #[.agg v.cells] w (ProperOut v w) := by
  have hr : properB v = true := by
    unfold properB
    simp [h0, h1, h2, h3, h4, h5, hpre, hi, hl, hs, hmet, hmi]
  have HR := hide hr
  clear hr
  have hb0 := below_new w #[.int .i64 v.maj, .int .i64 v.min, .int .i64 v.pat, .string (S v.pre), .string (S v.met)] 26
  have HB0 := hide hb0
  clear hb0
  unfold Ver.cells
  go_enter Tryd.func8, Tryd.ntmps8
  go_wp2_with fail
  refine (identifiers_any v.pre _ (by omega)).mono ?_
  rintro e w1 ⟨rfl, hb⟩
  have HB1 : Hid (Below w.heap.size w w1 ∧ Blk w1 w.heap.size 26 #[.int .i64 v.maj, .int .i64 v.min, .int .i64 v.pat, .string (S v.pre), .string (S v.met)]) := ⟨HB0.out.1.trans (hb.mono HB0.out.1.size), HB0.out.2.below hb HB0.out.2.lt⟩
  have c10 : w1.cell? ⟨w.heap.size, 3, none⟩ = some (.string (S v.pre)) := by rw [HB1.out.2.cell]; rfl
  have c11 : w1.cell? ⟨w.heap.size, 4, none⟩ = some (.string (S v.met)) := by rw [HB1.out.2.cell]; rfl
  clear hb
  rw [hi]
  go_wp2_with fail
  refine (leading_any v.pre _ (by omega)).mono ?_
  rintro e w2 ⟨rfl, hb⟩
  have HB2 : Hid (Below w.heap.size w w2 ∧ Blk w2 w.heap.size 26 #[.int .i64 v.maj, .int .i64 v.min, .int .i64 v.pat, .string (S v.pre), .string (S v.met)]) := ⟨HB1.out.1.trans (hb.mono HB1.out.1.size), HB1.out.2.below hb HB1.out.2.lt⟩
  have c20 : w2.cell? ⟨w.heap.size, 3, none⟩ = some (.string (S v.pre)) := by rw [HB2.out.2.cell]; rfl
  have c21 : w2.cell? ⟨w.heap.size, 4, none⟩ = some (.string (S v.met)) := by rw [HB2.out.2.cell]; rfl
  clear hb
  rw [hl]
  go_wp2_with fail
  refine (short_any v.pre _ (by omega)).mono ?_
  rintro e w3 ⟨rfl, hb⟩
  have HB3 : Hid (Below w.heap.size w w3 ∧ Blk w3 w.heap.size 26 #[.int .i64 v.maj, .int .i64 v.min, .int .i64 v.pat, .string (S v.pre), .string (S v.met)]) := ⟨HB2.out.1.trans (hb.mono HB2.out.1.size), HB2.out.2.below hb HB2.out.2.lt⟩
  have c30 : w3.cell? ⟨w.heap.size, 3, none⟩ = some (.string (S v.pre)) := by rw [HB3.out.2.cell]; rfl
  have c31 : w3.cell? ⟨w.heap.size, 4, none⟩ = some (.string (S v.met)) := by rw [HB3.out.2.cell]; rfl
  clear hb
  rw [hs]
  go_wp2_with fail
  refine (identifiers_any v.met _ (by omega)).mono ?_
  rintro e w4 ⟨rfl, hb⟩
  have HB4 : Hid (Below w.heap.size w w4 ∧ Blk w4 w.heap.size 26 #[.int .i64 v.maj, .int .i64 v.min, .int .i64 v.pat, .string (S v.pre), .string (S v.met)]) := ⟨HB3.out.1.trans (hb.mono HB3.out.1.size), HB3.out.2.below hb HB3.out.2.lt⟩
  have c40 : w4.cell? ⟨w.heap.size, 3, none⟩ = some (.string (S v.pre)) := by rw [HB4.out.2.cell]; rfl
  have c41 : w4.cell? ⟨w.heap.size, 4, none⟩ = some (.string (S v.met)) := by rw [HB4.out.2.cell]; rfl
  clear hb
  rw [hmi]
  go_wp2_with fail
  all_goals
    go_ret
    exact ⟨by rw [HR.out]; rfl, HB4.out.1⟩

theorem proper_any (v : Ver) (w : World) (hp : v.pre.length ≤ 8589934591) (hm : v.met.length ≤ 8589934591) : Calls Tryd.prog 8 #[.agg v.cells] w (ProperOut v w) := by
  by_cases h0 : 0 ≤ v.maj
  rotate_left
  · exact proper_0 v w hp hm h0
  by_cases h1 : 0 ≤ v.min
  rotate_left
  · exact proper_1 v w hp hm h0 h1
  by_cases h2 : 0 ≤ v.pat
  rotate_left
  · exact proper_2 v w hp hm h0 h1 h2
  by_cases h3 : v.maj < 1000000000000000000
  rotate_left
  · exact proper_3 v w hp hm h0 h1 h2 h3
  by_cases h4 : v.min < 1000000000000000000
  rotate_left
  · exact proper_4 v w hp hm h0 h1 h2 h3 h4
  by_cases h5 : v.pat < 1000000000000000000
  rotate_left
  · exact proper_5 v w hp hm h0 h1 h2 h3 h4 h5
  cases hpre : v.pre.isEmpty
  rotate_left
  · cases hmet : v.met.isEmpty
    rotate_left
    · exact proper_ee v w hp hm h0 h1 h2 h3 h4 h5 hpre hmet
    · have hmet2 := hmet
      cases hmi : identsB v.met
      · exact proper_ef v w hp hm h0 h1 h2 h3 h4 h5 hpre hmet2 hmi
      · exact proper_et v w hp hm h0 h1 h2 h3 h4 h5 hpre hmet2 hmi
  · have hpre2 := hpre
    cases hi : identsB v.pre
    · exact proper_i v w hp hm h0 h1 h2 h3 h4 h5 hpre2 hi
    · cases hl : leadingB v.pre
      rotate_left
      · exact proper_l v w hp hm h0 h1 h2 h3 h4 h5 hpre2 hi hl
      · cases hs : shortB v.pre
        · exact proper_s v w hp hm h0 h1 h2 h3 h4 h5 hpre2 hi hl hs
        · cases hmet : v.met.isEmpty
          rotate_left
          · exact proper_oe v w hp hm h0 h1 h2 h3 h4 h5 hpre2 hi hl hs hmet
          · have hmet2 := hmet
            cases hmi : identsB v.met
            · exact proper_of v w hp hm h0 h1 h2 h3 h4 h5 hpre2 hi hl hs hmet2 hmi
            · exact proper_ot v w hp hm h0 h1 h2 h3 h4 h5 hpre2 hi hl hs hmet2 hmi
end Go.Proofs.YtaoeelhgfdknfaaDoor
