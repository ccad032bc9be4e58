/- impl's Parse: what it answers at every text. No condition but a size, and that the library's two error variables hold errors. -/
import Derived.Test.YtaoeelhgfdknfaaDoorW15
namespace Go.Proofs.YtaoeelhgfdknfaaDoor
open Go.RowKit

attribute [local go_sem] S_size S_toList E_toList S_extract

/-- What impl's Parse answers. -/
def implP (s : Bs) : Ver × Bool := match parseT (trimV s) with
  | some v => (v, true)
  | none => (⟨0, 0, 0, [], []⟩, false)
theorem ParseOut.split {t : Bs} {w w' : World} {e : Ending} (h : ParseOut t w e w') : ((∃ v, parseT t = some v ∧ e = .returned (.tuple #[.agg v.cells, .nilIface])) ∨ (parseT t = none ∧ ∃ (v : Ver) (t p : _), e = .returned (.tuple #[.agg v.cells, .iface t p]))) ∧ Below w.heap.size w w' := by
  unfold ParseOut at h
  cases hp : parseT t with
  | some v => rw [hp] at h; exact ⟨Or.inl ⟨v, rfl, h.1⟩, h.2⟩
  | none => rw [hp] at h; obtain ⟨⟨v, t, p, he⟩, hb⟩ := h; exact ⟨Or.inr ⟨rfl, v, t, p, he⟩, hb⟩

set_option maxHeartbeats 2000000 in
set_option maxRecDepth 100000 in
theorem impl_any (s : Bs) (w : World) (hl : s.length ≤ 8589934400) (hv : VarsOk w) : Calls Tryd.prog 13 #[.string (S s)] w fun e w' => e = .returned (.tuple #[.agg (implP s).1.cells, .bool (implP s).2]) ∧ Below w.heap.size w w' := by
  have hk0 : Blk (w.alloc (.cells #[.int .i64 0, .int .i64 0, .int .i64 0, .string ⟨#[]⟩, .string ⟨#[]⟩] 23)) w.heap.size 23 #[.int .i64 0, .int .i64 0, .int .i64 0, .string ⟨#[]⟩, .string ⟨#[]⟩] := Blk.new _ _ _
  have hl0 : Below w.heap.size w (w.alloc (.cells #[.int .i64 0, .int .i64 0, .int .i64 0, .string ⟨#[]⟩, .string ⟨#[]⟩] 23)) := (Below.refl _ _).alloc (Nat.le_refl _) _
  go_enter Tryd.func13, Tryd.ntmps13
  go_wp2_with fail
  generalize w.alloc (.cells #[.int .i64 0, .int .i64 0, .int .i64 0, .string ⟨#[]⟩, .string ⟨#[]⟩] 23) = W0 at *
  have HKW0 := hide hk0
  have HLW0 := hide hl0
  clear hk0 hl0
  refine (parse_any s _ hl (hv.below HLW0.out)).mono ?_
  rintro e w1 ho
  obtain ⟨hcs, hb⟩ := ho.split
  have HK1 : Hid (Blk w1 w.heap.size 23 #[.int .i64 0, .int .i64 0, .int .i64 0, .string ⟨#[]⟩, .string ⟨#[]⟩]) := Blk.below HKW0.out hb (Blk.lt HKW0.out)
  have HL1 : Hid (Below w.heap.size w w1) := HLW0.out.trans (hb.mono HLW0.out.size)
  clear ho hb
  obtain ⟨v, hp, rfl⟩ | ⟨hp, v, t, p, rfl⟩ := hcs
  · have hi : implP s = (v, true) := by unfold implP; rw [hp]
    have HI := hide hi
    clear hp hi
    unfold Ver.cells
    have hA : Blk (w1.alloc (.cells #[.int .i64 v.maj, .int .i64 v.min, .int .i64 v.pat, .string (S v.pre), .string (S v.met)] 40)) w.heap.size 23 #[.int .i64 0, .int .i64 0, .int .i64 0, .string ⟨#[]⟩, .string ⟨#[]⟩] := HK1.out.alloc _
    have hB : Blk (w1.alloc (.cells #[.int .i64 v.maj, .int .i64 v.min, .int .i64 v.pat, .string (S v.pre), .string (S v.met)] 40)) w1.heap.size 40 #[.int .i64 v.maj, .int .i64 v.min, .int .i64 v.pat, .string (S v.pre), .string (S v.met)] := Blk.new _ _ _
    have hL : Below w.heap.size w (w1.alloc (.cells #[.int .i64 v.maj, .int .i64 v.min, .int .i64 v.pat, .string (S v.pre), .string (S v.met)] 40)) := HL1.out.alloc HL1.out.size _
    obtain ⟨a0, a1, a2, a3, a4⟩ := cells5 hA
    obtain ⟨b0, b1, b2, b3, b4⟩ := cells5 hB
    have f0 := hA.frozen 0
    have f1 := hA.frozen 1
    have f2 := hA.frozen 2
    have f3 := hA.frozen 3
    have f4 := hA.frozen 4
    have e0 := hB.frozen 0
    have e1 := hB.frozen 1
    have e2 := hB.frozen 2
    have e3 := hB.frozen 3
    have e4 := hB.frozen 4
    have hfv := five (x0 := .int .i64 v.maj) (x1 := .int .i64 v.min) (x2 := .int .i64 v.pat) (x3 := .string (S v.pre)) (x4 := .string (S v.met)) hA hL
    have HA := hide hA
    have HB := hide hB
    obtain ⟨v0, v1, v2, v3, v4⟩ := cells5 hfv.1
    have HF := hide hfv.2
    clear hA hB hfv hL
    go_wp2
    refine bodyPost_ret (v := .tuple #[.agg #[.int .i64 v.maj, .int .i64 v.min, .int .i64 v.pat, .string (S v.pre), .string (S v.met)], .bool true]) ?_ rfl ?_
    · simp only [results, Tryd.f13]
      simp [go_sem, v0, v1, v2, v3, v4]
    · rw [HI.out]; exact ⟨rfl, HF.out⟩
  · have hi : implP s = (⟨0, 0, 0, [], []⟩, false) := by unfold implP; rw [hp]
    have HI := hide hi
    clear hp hi
    unfold Ver.cells
    have hA : Blk (w1.alloc (.cells #[.int .i64 v.maj, .int .i64 v.min, .int .i64 v.pat, .string (S v.pre), .string (S v.met)] 40)) w.heap.size 23 #[.int .i64 0, .int .i64 0, .int .i64 0, .string ⟨#[]⟩, .string ⟨#[]⟩] := HK1.out.alloc _
    have hB : Blk (w1.alloc (.cells #[.int .i64 v.maj, .int .i64 v.min, .int .i64 v.pat, .string (S v.pre), .string (S v.met)] 40)) w1.heap.size 40 #[.int .i64 v.maj, .int .i64 v.min, .int .i64 v.pat, .string (S v.pre), .string (S v.met)] := Blk.new _ _ _
    have hL : Below w.heap.size w (w1.alloc (.cells #[.int .i64 v.maj, .int .i64 v.min, .int .i64 v.pat, .string (S v.pre), .string (S v.met)] 40)) := HL1.out.alloc HL1.out.size _
    obtain ⟨a0, a1, a2, a3, a4⟩ := cells5 hA
    obtain ⟨b0, b1, b2, b3, b4⟩ := cells5 hB
    have f0 := hA.frozen 0
    have f1 := hA.frozen 1
    have f2 := hA.frozen 2
    have f3 := hA.frozen 3
    have f4 := hA.frozen 4
    have e0 := hB.frozen 0
    have e1 := hB.frozen 1
    have e2 := hB.frozen 2
    have e3 := hB.frozen 3
    have e4 := hB.frozen 4
    have hfv := five (x0 := .int .i64 0) (x1 := .int .i64 0) (x2 := .int .i64 0) (x3 := .string ⟨#[]⟩) (x4 := .string ⟨#[]⟩) hA hL
    have HA := hide hA
    have HB := hide hB
    obtain ⟨v0, v1, v2, v3, v4⟩ := cells5 hfv.1
    have HF := hide hfv.2
    clear hA hB hfv hL
    go_wp2
    refine bodyPost_ret (v := .tuple #[.agg #[.int .i64 0, .int .i64 0, .int .i64 0, .string ⟨#[]⟩, .string ⟨#[]⟩], .bool false]) ?_ rfl ?_
    · simp only [results, Tryd.f13]
      simp [go_sem, v0, v1, v2, v3, v4]
    · rw [HI.out]; exact ⟨rfl, HF.out⟩

end Go.Proofs.YtaoeelhgfdknfaaDoor
