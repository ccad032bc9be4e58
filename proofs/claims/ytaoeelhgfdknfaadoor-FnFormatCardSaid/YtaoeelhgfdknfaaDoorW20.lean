/- The law FnParse: it answers true at every text. No condition but that the library's two error variables hold errors. Printed by gen_w20.py. -/
import Derived.Test.YtaoeelhgfdknfaaDoorW19
import Derived.Test.YtaoeelhgfdknfaaDoorW9
namespace Go.Proofs.YtaoeelhgfdknfaaDoor
open Go.RowKit

attribute [local go_sem] S_size S_toList E_toList S_extract

theorem pc1 : implP [49, 46, 50, 46, 51] = (⟨1, 2, 3, [], []⟩, true) := by kernel_rfl
theorem const123 (W : World) (hv : VarsOk W) : Calls Tryd.prog 13 #[.string ⟨#[49, 46, 50, 46, 51]⟩] W fun e w' => e = .returned (.tuple #[.agg #[.int .i64 1, .int .i64 2, .int .i64 3, .string ⟨#[]⟩, .string ⟨#[]⟩], .bool true]) ∧ Below W.heap.size W w' := by
  have h := impl_any [49, 46, 50, 46, 51] W (by decide) hv
  rw [pc1] at h
  exact h
theorem implP_some {s : Bs} {v : Ver} (h : parseT (trimV s) = some v) : implP s = (v, true) := by unfold implP; rw [h]
theorem implP_none {s : Bs} (h : parseT (trimV s) = none) : implP s = (⟨0, 0, 0, [], []⟩, false) := by unfold implP; rw [h]

set_option linter.unusedVariables false in
set_option linter.unusedSimpArgs false in
set_option maxHeartbeats 2000000 in
set_option maxRecDepth 100000 in
theorem parse_big (s : Bs) (w : World) (hv : VarsOk w) (hl : ¬ s.length ≤ 2147483647) : Calls Tryd.prog 4 #[.string (S s)] w fun e w' => e = .returned (.bool true) ∧ Below w.heap.size w w' := by
  have hl2 : (2147483647 : Int) < (s.length : Int) := by omega
  go_enter Tryd.func4, Tryd.ntmps4
  go_wp2
  go_ret
  exact ⟨rfl, Below.refl _ _⟩

set_option linter.unusedVariables false in
set_option linter.unusedSimpArgs false in
set_option maxHeartbeats 2000000 in
set_option maxRecDepth 100000 in
theorem parse_2 (s : Bs) (w : World) (hv : VarsOk w) (hl : s.length ≤ 2147483647) (v gv : Ver) (okb : Bool) (hs : specP s = (v, 2)) (hi : implP s = (gv, okb)) : Calls Tryd.prog 4 #[.string (S s)] w fun e w' => e = .returned (.bool true) ∧ Below w.heap.size w w' := by
  have hl2 : ¬ (2147483647 : Int) < (s.length : Int) := by omega
  have hsp : ∀ W : World, Calls Tryd.prog 12 #[.string (S s)] W fun e w' => e = .returned (.tuple #[.agg #[.int .i64 v.maj, .int .i64 v.min, .int .i64 v.pat, .string (S v.pre), .string (S v.met)], .int .i64 2]) ∧ Below W.heap.size W w' := fun W => by
    have h := spec_any s W (by omega)
    unfold SpecOut at h
    rw [hs] at h
    exact h
  have him : ∀ W : World, VarsOk W → Calls Tryd.prog 13 #[.string (S s)] W fun e w' => e = .returned (.tuple #[.agg #[.int .i64 gv.maj, .int .i64 gv.min, .int .i64 gv.pat, .string (S gv.pre), .string (S gv.met)], .bool okb]) ∧ Below W.heap.size W w' := fun W hW => by
    have h := impl_any s W (by omega) hW
    rw [hi] at h
    exact h
  have HSP := hide hsp
  have HIM := hide him
  have HVA := hide hv
  clear hsp him hs hi hv
  go_enter Tryd.func4, Tryd.ntmps4
  go_wp2_with fail
  refine (HSP.out _).mono ?_
  rintro e w1 ⟨rfl, hb⟩
  have hk : Blk (w1.alloc (.cells #[.int .i64 v.maj, .int .i64 v.min, .int .i64 v.pat, .string (S v.pre), .string (S v.met)] 26)) w1.heap.size 26 #[.int .i64 v.maj, .int .i64 v.min, .int .i64 v.pat, .string (S v.pre), .string (S v.met)] := Blk.new _ _ _
  have hL : Below w.heap.size w (w1.alloc (.cells #[.int .i64 v.maj, .int .i64 v.min, .int .i64 v.pat, .string (S v.pre), .string (S v.met)] 26)) := hb.alloc hb.size _
  go_wp2_with fail
  generalize w1.alloc (.cells #[.int .i64 v.maj, .int .i64 v.min, .int .i64 v.pat, .string (S v.pre), .string (S v.met)] 26) = w2 at *
  generalize w1.heap.size = g1 at *
  have HA2 := hide hk
  have HL2 := hide hL
  clear hk hL hb
  refine (HIM.out _ (HVA.out.below HL2.out)).mono ?_
  rintro e w3 ⟨rfl, hb⟩
  have hk : Blk (w3.alloc (.cells #[.int .i64 gv.maj, .int .i64 gv.min, .int .i64 gv.pat, .string (S gv.pre), .string (S gv.met)] 23)) w3.heap.size 23 #[.int .i64 gv.maj, .int .i64 gv.min, .int .i64 gv.pat, .string (S gv.pre), .string (S gv.met)] := Blk.new _ _ _
  have hA : Blk (w3.alloc (.cells #[.int .i64 gv.maj, .int .i64 gv.min, .int .i64 gv.pat, .string (S gv.pre), .string (S gv.met)] 23)) g1 26 #[.int .i64 v.maj, .int .i64 v.min, .int .i64 v.pat, .string (S v.pre), .string (S v.met)] := (HA2.out.below hb HA2.out.lt).alloc _
  have hL : Below w.heap.size w (w3.alloc (.cells #[.int .i64 gv.maj, .int .i64 gv.min, .int .i64 gv.pat, .string (S gv.pre), .string (S gv.met)] 23)) := (HL2.out.trans (hb.mono HL2.out.size)).alloc (HL2.out.trans (hb.mono HL2.out.size)).size _
  go_wp2_with fail
  generalize w3.alloc (.cells #[.int .i64 gv.maj, .int .i64 gv.min, .int .i64 gv.pat, .string (S gv.pre), .string (S gv.met)] 23) = w4 at *
  generalize w3.heap.size = g2 at *
  have HA4 := hide hA
  have HB4 := hide hk
  have HL4 := hide hL
  clear hk hL hb hA
  refine (const123 _ (HVA.out.below HL4.out)).mono ?_
  rintro e w5 ⟨rfl, hb⟩
  have hA : Blk (w5.alloc (.cells #[.int .i64 1, .int .i64 2, .int .i64 3, .string ⟨#[]⟩, .string ⟨#[]⟩] 23)) g1 26 #[.int .i64 v.maj, .int .i64 v.min, .int .i64 v.pat, .string (S v.pre), .string (S v.met)] := (HA4.out.below hb HA4.out.lt).alloc _
  have hB : Blk (w5.alloc (.cells #[.int .i64 1, .int .i64 2, .int .i64 3, .string ⟨#[]⟩, .string ⟨#[]⟩] 23)) g2 23 #[.int .i64 gv.maj, .int .i64 gv.min, .int .i64 gv.pat, .string (S gv.pre), .string (S gv.met)] := (HB4.out.below hb HB4.out.lt).alloc _
  have hL : Below w.heap.size w (w5.alloc (.cells #[.int .i64 1, .int .i64 2, .int .i64 3, .string ⟨#[]⟩, .string ⟨#[]⟩] 23)) := (HL4.out.trans (hb.mono HL4.out.size)).alloc (HL4.out.trans (hb.mono HL4.out.size)).size _
  go_wp2_with fail
  generalize w5.alloc (.cells #[.int .i64 1, .int .i64 2, .int .i64 3, .string ⟨#[]⟩, .string ⟨#[]⟩] 23) = w6 at *
  generalize w5.heap.size = g3 at *
  have HA6 := hide hA
  have HB6 := hide hB
  have HL6 := hide hL
  clear hb hA hB hL
  go_quiet (fail)
  go_wp2_with fail
  go_ret
  exact ⟨rfl, below_drewN HL6.out _⟩

set_option linter.unusedVariables false in
set_option linter.unusedSimpArgs false in
set_option maxHeartbeats 2000000 in
set_option maxRecDepth 100000 in
theorem parse_0 (s : Bs) (w : World) (hv : VarsOk w) (hl : s.length ≤ 2147483647) (v gv : Ver) (hs : specP s = (v, 0)) (hi : implP s = (gv, false)) : Calls Tryd.prog 4 #[.string (S s)] w fun e w' => e = .returned (.bool true) ∧ Below w.heap.size w w' := by
  have hl2 : ¬ (2147483647 : Int) < (s.length : Int) := by omega
  have hsp : ∀ W : World, Calls Tryd.prog 12 #[.string (S s)] W fun e w' => e = .returned (.tuple #[.agg #[.int .i64 v.maj, .int .i64 v.min, .int .i64 v.pat, .string (S v.pre), .string (S v.met)], .int .i64 0]) ∧ Below W.heap.size W w' := fun W => by
    have h := spec_any s W (by omega)
    unfold SpecOut at h
    rw [hs] at h
    exact h
  have him : ∀ W : World, VarsOk W → Calls Tryd.prog 13 #[.string (S s)] W fun e w' => e = .returned (.tuple #[.agg #[.int .i64 gv.maj, .int .i64 gv.min, .int .i64 gv.pat, .string (S gv.pre), .string (S gv.met)], .bool false]) ∧ Below W.heap.size W w' := fun W hW => by
    have h := impl_any s W (by omega) hW
    rw [hi] at h
    exact h
  have HSP := hide hsp
  have HIM := hide him
  have HVA := hide hv
  clear hsp him hs hi hv
  go_enter Tryd.func4, Tryd.ntmps4
  go_wp2_with fail
  refine (HSP.out _).mono ?_
  rintro e w1 ⟨rfl, hb⟩
  have hk : Blk (w1.alloc (.cells #[.int .i64 v.maj, .int .i64 v.min, .int .i64 v.pat, .string (S v.pre), .string (S v.met)] 26)) w1.heap.size 26 #[.int .i64 v.maj, .int .i64 v.min, .int .i64 v.pat, .string (S v.pre), .string (S v.met)] := Blk.new _ _ _
  have hL : Below w.heap.size w (w1.alloc (.cells #[.int .i64 v.maj, .int .i64 v.min, .int .i64 v.pat, .string (S v.pre), .string (S v.met)] 26)) := hb.alloc hb.size _
  go_wp2_with fail
  generalize w1.alloc (.cells #[.int .i64 v.maj, .int .i64 v.min, .int .i64 v.pat, .string (S v.pre), .string (S v.met)] 26) = w2 at *
  generalize w1.heap.size = g1 at *
  have HA2 := hide hk
  have HL2 := hide hL
  clear hk hL hb
  refine (HIM.out _ (HVA.out.below HL2.out)).mono ?_
  rintro e w3 ⟨rfl, hb⟩
  have hk : Blk (w3.alloc (.cells #[.int .i64 gv.maj, .int .i64 gv.min, .int .i64 gv.pat, .string (S gv.pre), .string (S gv.met)] 23)) w3.heap.size 23 #[.int .i64 gv.maj, .int .i64 gv.min, .int .i64 gv.pat, .string (S gv.pre), .string (S gv.met)] := Blk.new _ _ _
  have hA : Blk (w3.alloc (.cells #[.int .i64 gv.maj, .int .i64 gv.min, .int .i64 gv.pat, .string (S gv.pre), .string (S gv.met)] 23)) g1 26 #[.int .i64 v.maj, .int .i64 v.min, .int .i64 v.pat, .string (S v.pre), .string (S v.met)] := (HA2.out.below hb HA2.out.lt).alloc _
  have hL : Below w.heap.size w (w3.alloc (.cells #[.int .i64 gv.maj, .int .i64 gv.min, .int .i64 gv.pat, .string (S gv.pre), .string (S gv.met)] 23)) := (HL2.out.trans (hb.mono HL2.out.size)).alloc (HL2.out.trans (hb.mono HL2.out.size)).size _
  go_wp2_with fail
  generalize w3.alloc (.cells #[.int .i64 gv.maj, .int .i64 gv.min, .int .i64 gv.pat, .string (S gv.pre), .string (S gv.met)] 23) = w4 at *
  generalize w3.heap.size = g2 at *
  have HA4 := hide hA
  have HB4 := hide hk
  have HL4 := hide hL
  clear hk hL hb hA
  refine (const123 _ (HVA.out.below HL4.out)).mono ?_
  rintro e w5 ⟨rfl, hb⟩
  have hA : Blk (w5.alloc (.cells #[.int .i64 1, .int .i64 2, .int .i64 3, .string ⟨#[]⟩, .string ⟨#[]⟩] 23)) g1 26 #[.int .i64 v.maj, .int .i64 v.min, .int .i64 v.pat, .string (S v.pre), .string (S v.met)] := (HA4.out.below hb HA4.out.lt).alloc _
  have hB : Blk (w5.alloc (.cells #[.int .i64 1, .int .i64 2, .int .i64 3, .string ⟨#[]⟩, .string ⟨#[]⟩] 23)) g2 23 #[.int .i64 gv.maj, .int .i64 gv.min, .int .i64 gv.pat, .string (S gv.pre), .string (S gv.met)] := (HB4.out.below hb HB4.out.lt).alloc _
  have hL : Below w.heap.size w (w5.alloc (.cells #[.int .i64 1, .int .i64 2, .int .i64 3, .string ⟨#[]⟩, .string ⟨#[]⟩] 23)) := (HL4.out.trans (hb.mono HL4.out.size)).alloc (HL4.out.trans (hb.mono HL4.out.size)).size _
  go_wp2_with fail
  generalize w5.alloc (.cells #[.int .i64 1, .int .i64 2, .int .i64 3, .string ⟨#[]⟩, .string ⟨#[]⟩] 23) = w6 at *
  generalize w5.heap.size = g3 at *
  have HA6 := hide hA
  have HB6 := hide hB
  have HL6 := hide hL
  clear hb hA hB hL
  go_quiet (fail)
  go_wp2_with fail
  go_ret
  exact ⟨rfl, below_drewN HL6.out _⟩

set_option linter.unusedVariables false in
set_option linter.unusedSimpArgs false in
set_option maxHeartbeats 2000000 in
set_option maxRecDepth 100000 in
theorem parse_1 (s : Bs) (w : World) (hv : VarsOk w) (hl : s.length ≤ 2147483647) (v : Ver) (hs : specP s = (v, 1)) (hi : implP s = (v, true)) : Calls Tryd.prog 4 #[.string (S s)] w fun e w' => e = .returned (.bool true) ∧ Below w.heap.size w w' := by
  have hl2 : ¬ (2147483647 : Int) < (s.length : Int) := by omega
  have hsp : ∀ W : World, Calls Tryd.prog 12 #[.string (S s)] W fun e w' => e = .returned (.tuple #[.agg #[.int .i64 v.maj, .int .i64 v.min, .int .i64 v.pat, .string (S v.pre), .string (S v.met)], .int .i64 1]) ∧ Below W.heap.size W w' := fun W => by
    have h := spec_any s W (by omega)
    unfold SpecOut at h
    rw [hs] at h
    exact h
  have him : ∀ W : World, VarsOk W → Calls Tryd.prog 13 #[.string (S s)] W fun e w' => e = .returned (.tuple #[.agg #[.int .i64 v.maj, .int .i64 v.min, .int .i64 v.pat, .string (S v.pre), .string (S v.met)], .bool true]) ∧ Below W.heap.size W w' := fun W hW => by
    have h := impl_any s W (by omega) hW
    rw [hi] at h
    exact h
  have HSP := hide hsp
  have HIM := hide him
  have HVA := hide hv
  clear hsp him hs hi hv
  go_enter Tryd.func4, Tryd.ntmps4
  go_wp2_with fail
  refine (HSP.out _).mono ?_
  rintro e w1 ⟨rfl, hb⟩
  have hk : Blk (w1.alloc (.cells #[.int .i64 v.maj, .int .i64 v.min, .int .i64 v.pat, .string (S v.pre), .string (S v.met)] 26)) w1.heap.size 26 #[.int .i64 v.maj, .int .i64 v.min, .int .i64 v.pat, .string (S v.pre), .string (S v.met)] := Blk.new _ _ _
  have hL : Below w.heap.size w (w1.alloc (.cells #[.int .i64 v.maj, .int .i64 v.min, .int .i64 v.pat, .string (S v.pre), .string (S v.met)] 26)) := hb.alloc hb.size _
  go_wp2_with fail
  generalize w1.alloc (.cells #[.int .i64 v.maj, .int .i64 v.min, .int .i64 v.pat, .string (S v.pre), .string (S v.met)] 26) = w2 at *
  generalize w1.heap.size = g1 at *
  have HA2 := hide hk
  have HL2 := hide hL
  clear hk hL hb
  refine (HIM.out _ (HVA.out.below HL2.out)).mono ?_
  rintro e w3 ⟨rfl, hb⟩
  have hk : Blk (w3.alloc (.cells #[.int .i64 v.maj, .int .i64 v.min, .int .i64 v.pat, .string (S v.pre), .string (S v.met)] 23)) w3.heap.size 23 #[.int .i64 v.maj, .int .i64 v.min, .int .i64 v.pat, .string (S v.pre), .string (S v.met)] := Blk.new _ _ _
  have hA : Blk (w3.alloc (.cells #[.int .i64 v.maj, .int .i64 v.min, .int .i64 v.pat, .string (S v.pre), .string (S v.met)] 23)) g1 26 #[.int .i64 v.maj, .int .i64 v.min, .int .i64 v.pat, .string (S v.pre), .string (S v.met)] := (HA2.out.below hb HA2.out.lt).alloc _
  have hL : Below w.heap.size w (w3.alloc (.cells #[.int .i64 v.maj, .int .i64 v.min, .int .i64 v.pat, .string (S v.pre), .string (S v.met)] 23)) := (HL2.out.trans (hb.mono HL2.out.size)).alloc (HL2.out.trans (hb.mono HL2.out.size)).size _
  go_wp2_with fail
  generalize w3.alloc (.cells #[.int .i64 v.maj, .int .i64 v.min, .int .i64 v.pat, .string (S v.pre), .string (S v.met)] 23) = w4 at *
  generalize w3.heap.size = g2 at *
  have HA4 := hide hA
  have HB4 := hide hk
  have HL4 := hide hL
  clear hk hL hb hA
  refine (const123 _ (HVA.out.below HL4.out)).mono ?_
  rintro e w5 ⟨rfl, hb⟩
  have hA : Blk (w5.alloc (.cells #[.int .i64 1, .int .i64 2, .int .i64 3, .string ⟨#[]⟩, .string ⟨#[]⟩] 23)) g1 26 #[.int .i64 v.maj, .int .i64 v.min, .int .i64 v.pat, .string (S v.pre), .string (S v.met)] := (HA4.out.below hb HA4.out.lt).alloc _
  have hB : Blk (w5.alloc (.cells #[.int .i64 1, .int .i64 2, .int .i64 3, .string ⟨#[]⟩, .string ⟨#[]⟩] 23)) g2 23 #[.int .i64 v.maj, .int .i64 v.min, .int .i64 v.pat, .string (S v.pre), .string (S v.met)] := (HB4.out.below hb HB4.out.lt).alloc _
  have hL : Below w.heap.size w (w5.alloc (.cells #[.int .i64 1, .int .i64 2, .int .i64 3, .string ⟨#[]⟩, .string ⟨#[]⟩] 23)) := (HL4.out.trans (hb.mono HL4.out.size)).alloc (HL4.out.trans (hb.mono HL4.out.size)).size _
  go_wp2_with fail
  generalize w5.alloc (.cells #[.int .i64 1, .int .i64 2, .int .i64 3, .string ⟨#[]⟩, .string ⟨#[]⟩] 23) = w6 at *
  generalize w5.heap.size = g3 at *
  have HA6 := hide hA
  have HB6 := hide hB
  have HL6 := hide hL
  clear hb hA hB hL
  obtain ⟨a0, a1, a2, a3, a4⟩ := cells5 HA6.out
  obtain ⟨b0, b1, b2, b3, b4⟩ := cells5 HB6.out
  have hver := fun W => version_any v W
  unfold Ver.cells at hver
  have HVER := hide hver
  clear hver
  go_region_held3 (fun w' => (w'.cell? ⟨g1, 0, none⟩ = some (.int .i64 v.maj) ∧ w'.cell? ⟨g1, 1, none⟩ = some (.int .i64 v.min) ∧ w'.cell? ⟨g1, 2, none⟩ = some (.int .i64 v.pat) ∧ w'.cell? ⟨g1, 3, none⟩ = some (.string (S v.pre)) ∧ w'.cell? ⟨g1, 4, none⟩ = some (.string (S v.met))) ∧ (w'.cell? ⟨g2, 0, none⟩ = some (.int .i64 v.maj) ∧ w'.cell? ⟨g2, 1, none⟩ = some (.int .i64 v.min) ∧ w'.cell? ⟨g2, 2, none⟩ = some (.int .i64 v.pat) ∧ w'.cell? ⟨g2, 3, none⟩ = some (.string (S v.pre)) ∧ w'.cell? ⟨g2, 4, none⟩ = some (.string (S v.met)))) (first | with_reducible exact ⟨cells5 HAx.out, cells5 HBx.out⟩ | go_keep)
    (first
      | (go_at_call 9
         with_reducible refine (HVER.out _).mono ?_
         rintro e wx ⟨rfl, hbx⟩
         have HAx : Hid (Blk wx g1 26 #[.int .i64 v.maj, .int .i64 v.min, .int .i64 v.pat, .string (S v.pre), .string (S v.met)]) := (Blk.drew HA6.out).below hbx HA6.out.lt
         have HBx : Hid (Blk wx g2 23 #[.int .i64 v.maj, .int .i64 v.min, .int .i64 v.pat, .string (S v.pre), .string (S v.met)]) := (Blk.drew HB6.out).below hbx HB6.out.lt
         have HX : Hid (Below w.heap.size w wx) := (below_drew HL6.out).trans (hbx.mono (below_drew HL6.out).size)
         clear hbx)
      | fail)
  all_goals
    go_wp2_with fail
    go_ret
    exact ⟨rfl, HX.out⟩

theorem fnParse_any (s : Bs) (w : World) (hv : VarsOk w) : Calls Tryd.prog 4 #[.string (S s)] w fun e w' => e = .returned (.bool true) ∧ Below w.heap.size w w' := by
  by_cases hl : s.length ≤ 2147483647
  rotate_left
  · exact parse_big s w hv hl
  rcases parse_agree s with h | ⟨h, h1⟩ | ⟨h, h1⟩
  · exact parse_2 s w hv hl (specP s).1 (implP s).1 (implP s).2 (by rw [← h]) rfl
  · exact parse_1 s w hv hl (specP s).1 (by rw [← h]) (implP_some h1)
  · exact parse_0 s w hv hl (specP s).1 _ (by rw [← h]) (implP_none h1)

end Go.Proofs.YtaoeelhgfdknfaaDoor
