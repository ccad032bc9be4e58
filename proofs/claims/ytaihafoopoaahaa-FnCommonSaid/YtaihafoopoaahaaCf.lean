/- The walk of charNode.LongestCommonPrefix. Under sizes alone. -/
import Derived.Test.YtaihafoopoaahaaCe
import Derived.Test.YtaihafoopoaahaaCv
namespace Go.Proofs.Ytaihafoopoaahaa
open Go.RowKit

section
variable {w wr : World} {root : Nat} {F : Nat → Prop} {U : Bs → Nat} {C : Bs → Bs} {L : Bs → Value} {q : Bs} {hb : Nat}
theorem WalkC.on (h : CtM w root F U C L) (hw : WalkC C U q) : ∀ j, j ≤ q.length → On U (q.take j)
  | 0, _ => Or.inl (by simp)
  | j + 1, hj => by
    obtain ⟨c, h1, h2, _⟩ := hw j (by omega)
    rw [take_succ_snoc h2]
    exact Or.inr ((h.mem _ (WalkC.on h hw j (by omega)) c).1 (by rw [h1]; simp))
/-- The state of the walk down, i bytes laid. -/
structure LqS (w : World) (U : Bs → Nat) (L : Bs → Value) (q : Bs) (R : Nat) (wr : World) (i hb : Nat) : Prop where
  gr : Chg (fun _ => False) w wr
  box : Blk wr hb 46 #[.int .u8 ((q.getD i 0).toNat : Int), L (q.take (i + 1)), .int .i64 (U (q.take (i + 1)) : Int)]
  res : Blk wr R 5 (arrV q.length (fun t => .int .u8 (if t < i then ((q.getD t 0).toNat : Int) else 0)))
  rw_ : w.heap.size ≤ R
  ne : hb ≠ R
end

set_option linter.unusedSimpArgs false in
set_option linter.unusedVariables false in
set_option maxHeartbeats 2000000 in
set_option maxRecDepth 100000 in
theorem lcp_any (N : Nat) (w : World) (root : Nat) (F : Nat → Prop) (U : Bs → Nat) (C : Bs → Bs) (L : Bs → Value) (h : CtM w root F U C L) (hU0 : U [] = 0) (hU2 : ∀ q, U q ≤ 1000000) (hN : ∀ q, 0 < U q → q.length ≤ N) (hN2 : N ≤ 1000000) :
    Calls Try.prog 26 #[.agg #[.int .u8 0, L [], .int .i64 0]] w fun e w' => ∃ (q : Bs) (g : Nat), e = .returned (.slice (some ⟨g, 0, none⟩) q.length q.length) ∧ LcpC C U q ∧ Chg (fun _ => False) w w' ∧ w.heap.size ≤ g ∧
      Blk w' g 5 (arrV q.length (fun t => .int .u8 ((q.getD t 0).toNat : Int))) := by
  obtain ⟨A0, c0, hL0, _⟩ := h.slice (q := []) (Or.inl rfl)
  have hf0 := h.few (q := []) (Or.inl rfl)
  have HL0 := hide hL0
  have HLC := hide (lcpl_any N (w.alloc (.cells #[.int .u8 0, L [], .int .i64 0] 46)) root F U C L (h.chg ((Chg.refl (fun _ => False) w).alloc _) (fun _ _ h => h)) hU0 hU2 hN hN2)
  have HT := hide h
  have HU2 := hide hU2
  have HN := hide hN
  have HU0 := hide hU0
  rw [hL0] at HLC ⊢
  generalize (C []).length = n0 at hL0 HL0 hf0 HLC
  clear h hU2 hN hU0 hL0
  go_enter Try.func26, Try.ntmps26
  go_wp2_with fail
  refine HLC.out.mono ?_
  rintro _ w1 ⟨q, rfl, hq, hg⟩
  have HQ := hide hq
  have hql : q.length ≤ 1000000 := by
    rcases hq.1 with h | h
    · subst h; simp
    · exact Nat.le_trans (HN.out q h) hN2
  have HG : Hid (Chg (fun _ => False) w w1) := (((Chg.refl (fun _ => False) w).alloc (.cells #[.int .u8 0, .slice A0 n0 c0, .int .i64 0] 46)).trans hg (fun _ _ h => h) : Chg (fun _ => False) w w1)
  have hbx : Blk w1 w.heap.size 46 #[.int .u8 0, .slice A0 n0 c0, .int .i64 0] := (Blk.new w 46 _).chg hg (fun h => h)
  have b0 := hbx.cell 0
  have b1 := hbx.cell 1
  have b2 := hbx.cell 2
  simp at b0 b1 b2
  have hlb := hbx.lt
  have hmk := fun W => make_bytes hql W
  obtain ⟨w2, hw2⟩ : ∃ w2, w2 = w1.alloc (.cells (arrV q.length (fun _ => .int .u8 0)) 5) := ⟨_, rfl⟩
  have hws : w.heap.size ≤ w1.heap.size := HG.out.size
  have HR : Hid (Blk w2 w1.heap.size 5 (arrV q.length (fun _ => .int .u8 0))) := by rw [hw2]; exact Blk.new _ _ _
  have HG2 : Hid (Chg (fun _ => False) w w2) := by rw [hw2]; exact HG.out.alloc _
  have HB2 : Hid (Blk w2 w.heap.size 46 #[.int .u8 0, .slice A0 n0 c0, .int .i64 0]) := by rw [hw2]; exact hbx.alloc _
  clear hq hg hbx HLC
  by_cases h0 : q.length = 0
  · obtain rfl : q = [] := List.eq_nil_of_length_eq_zero h0
    have hmk : ∀ W, (Instr.makeSlice 22 (.int .i64 0) (.int .i64 0)).run Try.prog W = .ok (.slice (some ⟨W.heap.size, 0, none⟩) 0 0) (W.alloc (.cells (arrV 0 (fun _ => .int .u8 0)) 5)) := fun W => make_bytes (n := 0) (by omega) W
    rw [hw2] at HR HG2
    clear hw2 HB2
    go_wp2
    go_ret
    exact ⟨[], w1.heap.size, rfl, HQ.out, HG2.out, hws, HR.out⟩
  · have he0 : ((q.length : Int) == 0) = false := by rw [beq_eq_false_iff_ne]; omega
    obtain ⟨c1, hc1, hq1, _⟩ := HQ.out.2.1 0 (by omega)
    rw [List.take_zero] at hc1
    obtain ⟨bb, cp, e1, k0, k1, k2, hpos⟩ := (HT.out.chg HG.out (fun _ _ h => h)).one (Or.inl rfl) hc1
    rw [List.nil_append] at k1 k2 hpos
    rw [HL0.out] at e1
    injection e1 with e1 e2 e3
    subst e1; subst e2; subst e3
    obtain ⟨A3, c3, hL3, _⟩ := HT.out.slice (q := [c1]) (Or.inr hpos)
    have hf3 := HT.out.few (q := [c1]) (Or.inr hpos)
    rw [hL3] at k1
    have HA : Hid (∀ W, Chg (fun _ => False) w W → Blk W w1.heap.size 5 (arrV q.length (fun _ => .int .u8 0)) → ∀ hb, hb ≠ w1.heap.size → Blk W hb 46 #[.int .u8 (c1.toNat : Int), .slice A3 (C [c1]).length c3, .int .i64 (U [c1] : Int)] → LqS w U L q w1.heap.size W 0 hb) := by
      intro W hg hr hb hne hb2
      have e1 : q.take 1 = [c1] := by rw [take_succ_snoc hq1, List.take_zero]; rfl
      have e2 : q.getD 0 0 = c1 := by rw [List.getD_eq_getElem?_getD, hq1]; rfl
      exact ⟨hg, by rw [e1, e2, hL3]; exact hb2, by simpa using hr, hws, hne⟩
    have hlb2 : bb < w1.heap.size := World.block_lt_of_cell? w1 _ k0
    clear hL3 hc1 hq1
    generalize (C [c1]).length = n3 at k1 hf3 HA
    generalize U [c1] = uc at *
    rw [hw2] at HR HG2
    clear hw2 HB2
    go_wp2
    have HST : Hid (LqS w U L q w1.heap.size ((w1.alloc (.cells (arrV q.length fun x => .int .u8 0) 5)).alloc (.cells #[.int .u8 (c1.toNat : Int), .slice A3 n3 c3, .int .i64 (uc : Int)] 46)) 0 (w1.heap.size + 1)) := by
      exact hide (HA.out _ (HG2.out.alloc _) (HR.out.alloc _) _ (by omega) (Blk.new_ _ 46 _ (by simp)))
    clear HA HR HG2 b0 b1 b2 k0 k1 k2 HG he0 hmk
    go_loopw [4, 5] (fun s4 s5 wr => ∃ i hb : Nat, s4 = .int .i64 i ∧ s5 = .pointer (some ⟨hb, 0, none⟩) ∧ i < q.length ∧ Hid (LqS w U L q w1.heap.size wr i hb)) (fun s4 _ _ => q.length - (intOf s4).toNat)
    case atStart => exact ⟨0, w1.heap.size + 1, rfl, rfl, by omega, HST⟩
    case round =>
      obtain ⟨i, hb, rfl, rfl, hi, HS⟩ := hrel
      clear HST
      obtain ⟨Ai, ci, hLi, _⟩ := HT.out.slice (WalkC.on HT.out HQ.out.2.1 (i + 1) (by omega))
      have b0 := HS.out.box.cell 0
      have b1 := HS.out.box.cell 1
      have b2 := HS.out.box.cell 2
      simp at b0 b1 b2
      rw [hLi] at b1
      have r0 := HS.out.res.vcell hi
      have f0 := HS.out.res.frozen i
      have hn1 : ¬ hb = w1.heap.size := HS.out.ne
      have hn2 : ¬ w1.heap.size = hb := fun e => hn1 e.symm
      have hlr := HS.out.res.lt
      have hlb := HS.out.box.lt
      simp at r0
      have HRS : Hid (Blk (wr.setCell ⟨w1.heap.size, i, none⟩ (.int .u8 ((q.getD i 0).toNat : Int))) w1.heap.size 5 (arrV q.length (fun t => .int .u8 (if t < i + 1 then ((q.getD t 0).toNat : Int) else 0)))) := by
        have h1 := HS.out.res.vset i (.int .u8 ((q.getD i 0).toNat : Int))
        rw [arrV_congr (W := fun t => .int .u8 (if t < i + 1 then ((q.getD t 0).toNat : Int) else 0)) (fun t ht => by
          unfold updV
          by_cases h2 : t = i
          · subst h2; simp
          · rw [if_neg h2]
            dsimp only
            by_cases h3 : t < i
            · rw [if_pos h3, if_pos (by omega)]
            · rw [if_neg h3, if_neg (by omega)])] at h1
        exact hide h1
      have HGS : Hid (Chg (fun _ => False) w (wr.setCell ⟨w1.heap.size, i, none⟩ (.int .u8 ((q.getD i 0).toNat : Int)))) := hide (HS.out.gr.setCell (p := ⟨w1.heap.size, i, none⟩) (fun h => by have := HS.out.rw_; have h9 : w1.heap.size < w.heap.size := h; omega) _)
      have hcl := (q.getD i 0).toNat_lt
      simp only [List.getD_eq_getElem?_getD] at b0 HRS HGS hcl
      by_cases hlast : i + 1 = q.length
      · have he1 : ((i : Int) + 1 == (q.length : Int)) = true := by rw [beq_iff_eq]; omega
        clear hLi
        generalize (C (q.take (i + 1))).length = ni at b1
        generalize U (q.take (i + 1)) = ui at b2
        generalize hch : (q[i]?.getD 0).toNat = ch at b0 HRS HGS hcl
        have HF : Hid (Blk (wr.setCell ⟨w1.heap.size, i, none⟩ (.int .u8 (ch : Int))) w1.heap.size 5 (arrV q.length (fun t => .int .u8 ((q.getD t 0).toNat : Int)))) := by
          have h1 := HRS.out
          rw [arrV_congr (W := fun t => .int .u8 ((q.getD t 0).toNat : Int)) (fun t ht => by rw [if_pos (by omega)]; simp)] at h1
          exact hide h1
        have hrw := hide HS.out.rw_
        clear HS HRS hch hlast
        go_wp2
        go_ret
        exact ⟨q, w1.heap.size, rfl, HQ.out, HGS.out, hrw.out, HF.out⟩
      · have he1 : ((i : Int) + 1 == (q.length : Int)) = false := by rw [beq_eq_false_iff_ne]; omega
        obtain ⟨c2, hc2, hq2, _⟩ := HQ.out.2.1 (i + 1) (by omega)
        have hon := WalkC.on HT.out HQ.out.2.1 (i + 1) (by omega)
        obtain ⟨bb, cp, e1, k0, k1, k2, hpos⟩ := HT.out.one hon hc2
        have hbw : bb < w.heap.size := World.block_lt_of_cell? w _ k0
        obtain ⟨_, _, e1', k0, k1, k2, _⟩ := (HT.out.chg HS.out.gr (fun _ _ h => h)).one hon hc2
        rw [e1] at e1'
        injection e1' with e2 _ e3
        injection e2 with e2
        injection e2 with e2
        subst e2; subst e3
        rw [hLi, hc2] at e1
        injection e1 with e1 _ e3
        subst e1; subst e3
        rw [hc2] at b1
        have hlb2 : bb < wr.heap.size := World.block_lt_of_cell? wr _ k0
        have hn3 : ¬ bb = w1.heap.size := by have := HS.out.rw_; omega
        have hn4 : ¬ w1.heap.size = bb := fun e => hn3 e.symm
        obtain ⟨A3, c3, hL3, _⟩ := HT.out.slice (q := q.take (i + 1) ++ [c2]) (Or.inr hpos)
        have hf3 := HT.out.few (q := q.take (i + 1) ++ [c2]) (Or.inr hpos)
        rw [hL3] at k1
        have HA : Hid (∀ W, Chg (fun _ => False) w W → Blk W w1.heap.size 5 (arrV q.length (fun t => .int .u8 (if t < i + 1 then ((q.getD t 0).toNat : Int) else 0))) → ∀ hb, hb ≠ w1.heap.size → Blk W hb 46 #[.int .u8 (c2.toNat : Int), .slice A3 (C (q.take (i + 1) ++ [c2])).length c3, .int .i64 (U (q.take (i + 1) ++ [c2]) : Int)] → LqS w U L q w1.heap.size W (i + 1) hb) := by
          intro W hg hr hb hne hb2
          have e1 : q.take (i + 1 + 1) = q.take (i + 1) ++ [c2] := take_succ_snoc hq2
          have e2 : q.getD (i + 1) 0 = c2 := by rw [List.getD_eq_getElem?_getD, hq2]; rfl
          exact ⟨hg, by rw [e1, e2, hL3]; exact hb2, hr, HS.out.rw_, hne⟩
        have hRl : w1.heap.size < wr.heap.size := hlr
        clear hL3 hc2 hq2 hLi HS hon
        generalize (C (q.take (i + 1) ++ [c2])).length = n3 at k1 hf3 HA
        generalize U (q.take (i + 1) ++ [c2]) = uc at *
        generalize U (q.take (i + 1)) = ui at b2
        generalize hch : (q[i]?.getD 0).toNat = ch at b0 HRS HGS hcl
        clear hch
        have hcl2 := c2.toNat_lt
        go_wp2
        exact ⟨⟨i + 1, wr.heap.size, by go_num, rfl, by omega, hide (HA.out _ (HGS.out.alloc _) (by
          have h1 := HRS.out.alloc (.cells #[.int .u8 (c2.toNat : Int), .slice A3 n3 c3, .int .i64 (uc : Int)] 46)
          simp only [List.getD_eq_getElem?_getD]
          exact h1) _ (by omega) (Blk.new_ _ 46 _ (by simp [World.setCell])))⟩, by simp [intOf]; omega⟩
end Go.Proofs.Ytaihafoopoaahaa
