/- The walks of charNode.LongestCommonPrefixLength and LongestCommonPrefix. Under sizes alone. -/
import Derived.Test.YtaihafoopoaahaaCd
import Derived.BigQuiet
import Derived.Deep.QuietTactic
import Derived.Laws.MakeOwn
namespace Go.Proofs.Ytaihafoopoaahaa
open Go.RowKit

/-- Down the path q each node has one child, that is used as often as the node itself. -/
def WalkC (C : Bs → Bs) (U : Bs → Nat) (q : Bs) : Prop := ∀ j, j < q.length → ∃ c, C (q.take j) = [c] ∧ q[j]? = some c ∧ U (q.take j) ≤ U (q.take (j + 1))
/-- .. and it goes no further. -/
def LcpC (C : Bs → Bs) (U : Bs → Nat) (q : Bs) : Prop := On U q ∧ WalkC C U q ∧ ∀ c, C q = [c] → U (q ++ [c]) < U q

theorem WalkC.snoc {C : Bs → Bs} {U : Bs → Nat} {q : Bs} {c : UInt8} (h : WalkC C U q) (hc : C q = [c]) (hu : U q ≤ U (q ++ [c])) : WalkC C U (q ++ [c]) := by
  intro j hj
  simp at hj
  rcases Nat.lt_or_ge j q.length with h1 | h1
  · obtain ⟨x, h2, h3, h4⟩ := h j h1
    refine ⟨x, ?_, ?_, ?_⟩
    · rw [List.take_append_of_le_length (by omega)]; exact h2
    · rw [List.getElem?_append_left h1]; exact h3
    · rw [List.take_append_of_le_length (by omega), List.take_append_of_le_length (by omega)]; exact h4
  · obtain rfl : j = q.length := by omega
    refine ⟨c, ?_, ?_, ?_⟩
    · rw [List.take_left]; exact hc
    · simp
    · rw [List.take_left, List.take_of_length_le (by simp)]; exact hu

structure LpS (w : World) (U : Bs → Nat) (C : Bs → Bs) (L : Bs → Value) (wr : World) (q : Bs) (hb : Nat) : Prop where
  gr : Chg (fun _ => False) w wr
  on : On U q
  blk : ∃ x : Int, Blk wr hb 46 #[.int .u8 x, L q, .int .i64 (U q : Int)]
  walk : WalkC C U q

section
variable {w wr : World} {root : Nat} {F : Nat → Prop} {U : Bs → Nat} {C : Bs → Bs} {L : Bs → Value} {q : Bs} {hb : Nat}
/-- The only child. -/
theorem CtM.one {c : UInt8} (h : CtM w root F U C L) (hq : On U q) (hc : C q = [c]) : ∃ b cp, L q = .slice (some ⟨b, 0, none⟩) 1 cp ∧
    w.cell? ⟨b, 0, none⟩ = some (.int .u8 (c.toNat : Int)) ∧ w.cell? ⟨b, 1, none⟩ = some (L (q ++ [c])) ∧ w.cell? ⟨b, 2, none⟩ = some (.int .i64 (U (q ++ [c]) : Int)) ∧ 0 < U (q ++ [c]) := by
  obtain ⟨b, cp, h1, _, _, _, h2, h3, h4, _⟩ := h.kid (j := 0) hq (by rw [hc]; rfl)
  rw [hc] at h1
  exact ⟨b, cp, h1, by simpa using h2, by simpa using h3, by simpa using h4, (h.mem q hq c).1 (by rw [hc]; simp)⟩
end

theorem LpS.drewN {w wr : World} {U : Bs → Nat} {C : Bs → Bs} {L : Bs → Value} {q : Bs} {hb : Nat} (h : LpS w U C L wr q hb) (n : Nat) : LpS w U C L (wr.drewN n) q hb := by
  obtain ⟨x, hx⟩ := h.blk
  exact ⟨h.gr.drewN n, h.on, ⟨x, hx.drewN n⟩, h.walk⟩
theorem LpS.box {w wr : World} {U : Bs → Nat} {C : Bs → Bs} {L : Bs → Value} {q : Bs} {hb : Nat} (h : LpS w U C L wr q hb) : ∃ x : Int, wr.cell? ⟨hb, 0, none⟩ = some (.int .u8 x) ∧ wr.cell? ⟨hb, 1, none⟩ = some (L q) ∧ wr.cell? ⟨hb, 2, none⟩ = some (.int .i64 (U q : Int)) ∧ wr.frozen? ⟨hb, 0, none⟩ = false ∧ wr.frozen? ⟨hb, 1, none⟩ = false ∧ wr.frozen? ⟨hb, 2, none⟩ = false ∧ hb < wr.heap.size := by
  obtain ⟨x, hx⟩ := h.blk
  refine ⟨x, ?_, ?_, ?_, hx.frozen 0, hx.frozen 1, hx.frozen 2, hx.lt⟩ <;> rw [hx.cell] <;> rfl

set_option linter.unusedSimpArgs false in
set_option linter.unusedVariables false in
set_option maxHeartbeats 2000000 in
set_option maxRecDepth 100000 in
theorem lcpl_any (N : Nat) (w : World) (root : Nat) (F : Nat → Prop) (U : Bs → Nat) (C : Bs → Bs) (L : Bs → Value) (h : CtM w root F U C L) (hU0 : U [] = 0) (hU2 : ∀ q, U q ≤ 1000000) (hN : ∀ q, 0 < U q → q.length ≤ N) (hN2 : N ≤ 1000000) :
    Calls Try.prog 25 #[.agg #[.int .u8 0, L [], .int .i64 0]] w fun e w' => ∃ q, e = .returned (.int .i64 (q.length : Int)) ∧ LcpC C U q ∧ Chg (fun _ => False) w w' := by
  have HT := hide h
  have HU2 := hide hU2
  have HN := hide hN
  have HU0 := hide hU0
  obtain ⟨A0, c0, hL0, _⟩ := h.slice (q := []) (Or.inl rfl)
  have hf0 := h.few (q := []) (Or.inl rfl)
  have HL0 := hide hL0
  generalize (C []).length = n0 at hL0 HL0 hf0
  rw [hL0]
  clear h hU2 hN hU0 hL0
  go_enter Try.func25, Try.ntmps25
  go_wp2
  have HA : Hid (LpS w U C L ((w.alloc (.cells #[.int .u8 0, .slice A0 n0 c0, .int .i64 0] 46)).alloc (.cells #[.int .u8 0, .slice A0 n0 c0, .int .i64 0] 46)) [] (w.heap.size + 1)) := by
    refine (⟨((Chg.refl _ w).alloc _).alloc _, Or.inl rfl, ⟨0, ?_⟩, fun j hj => absurd hj (by simp)⟩ : LpS w U C L _ [] (w.heap.size + 1))
    rw [HL0.out, HU0.out]
    exact Blk.new_ _ 46 _ (by simp)
  clear HL0
  go_loopw [3, 4] (fun s3 s4 wr => ∃ (r hb : Nat), s3 = .int .i64 r ∧ s4 = .pointer (some ⟨hb, 0, none⟩) ∧ r ≤ N ∧ Hid (∃ q, q.length = r ∧ LpS w U C L wr q hb)) (fun s3 _ _ => N - (intOf s3).toNat)
  case atStart => exact ⟨0, w.heap.size + 1, rfl, rfl, by omega, (⟨[], rfl, HA.out⟩ : ∃ q, q.length = 0 ∧ LpS w U C L _ q (w.heap.size + 1))⟩
  case round =>
    obtain ⟨r, hb, rfl, rfl, hr, HX⟩ := hrel
    obtain ⟨q, hq, hs⟩ := HX.out
    have HQ := hide hq
    have HS := hide hs
    clear HA HX hs hq
    obtain ⟨A1, c1, hL1, _⟩ := HT.out.slice HS.out.on
    have hf1 := HT.out.few HS.out.on
    obtain ⟨x0, b0, b1, b2, g0, g1, g2, hlb⟩ := HS.out.box
    have hu := HU2.out q
    rw [hL1] at b1
    by_cases hone : (C q).length = 1
    · obtain ⟨c, hc⟩ := List.length_eq_one_iff.1 hone
      obtain ⟨bb, cp, e1, k0, k1, k2, hpos⟩ := (HT.out.chg HS.out.gr (fun _ _ h => h)).one HS.out.on hc
      rw [hL1, hone] at e1
      injection e1 with e1 _ e2
      subst e1; subst e2
      rw [hone] at b1
      have hlb2 : bb < wr.heap.size := World.block_lt_of_cell? wr _ k0
      obtain ⟨A3, c3, hL3, _⟩ := HT.out.slice (q := q ++ [c]) (Or.inr hpos)
      have hf3 := HT.out.few (q := q ++ [c]) (Or.inr hpos)
      rw [hL3] at k1
      have HL3 := hide hL3
      have hu3 := HU2.out (q ++ [c])
      have HC := hide hc
      have hrn := HN.out _ hpos
      rw [List.length_append, HQ.out] at hrn
      simp at hrn
      have HW0 := hide HS.out.walk
      generalize (C (q ++ [c])).length = n3 at k1 HL3 hf3
      by_cases hge : U q ≤ U (q ++ [c])
      · have HW := hide (HS.out.walk.snoc hc hge)
        have HN3 : Hid (∀ wz hb2, Chg (fun _ => False) w wz → Blk wz hb2 46 #[.int .u8 (c.toNat : Int), .slice A3 n3 c3, .int .i64 (U (q ++ [c]) : Int)] → ∃ q', q'.length = r + 1 ∧ LpS w U C L wz q' hb2) := fun wz hb2 hg hb => ⟨q ++ [c], by rw [List.length_append, HQ.out]; rfl, hg, Or.inr hpos, ⟨_, by rw [HL3.out]; exact hb⟩, HW.out⟩
        have HG := hide HS.out.gr
        have hd1 : decide ((U (q ++ [c]) : Int) ≥ (U q : Int)) = true := by simp; omega
        have hd2 : decide ((U q : Int) ≤ (U (q ++ [c]) : Int)) = true := by simp; omega
        have hd3 : decide (U q ≤ U (q ++ [c])) = true := by simp; omega
        clear HS hc HC hL3 HL3 hone HW HW0 hL1
        generalize U (q ++ [c]) = uc at *
        generalize U q = uq at *
        have HCE : Hid (∀ n, (wr.drewN n).cell? ⟨hb, 0, none⟩ = some (.int .u8 x0) ∧ (wr.drewN n).cell? ⟨hb, 1, none⟩ = some (.slice (some ⟨bb, 0, none⟩) 1 c1) ∧ (wr.drewN n).cell? ⟨hb, 2, none⟩ = some (.int .i64 (uq : Int)) ∧
          (wr.drewN n).cell? ⟨bb, 0, none⟩ = some (.int .u8 (c.toNat : Int)) ∧ (wr.drewN n).cell? ⟨bb, 1, none⟩ = some (.slice A3 n3 c3) ∧ (wr.drewN n).cell? ⟨bb, 2, none⟩ = some (.int .i64 (uc : Int)) ∧ hb < (wr.drewN n).heap.size ∧ bb < (wr.drewN n).heap.size) := fun n => ⟨b0, b1, b2, k0, k1, k2, hlb, hlb2⟩
        go_wp2
        go_quiet (fail)
        obtain ⟨wq, hwq⟩ : ∃ wq, wq = wr.drewN nq := ⟨_, rfl⟩
        have HCQ := hide (HCE.out nq)
        rw [← hwq] at HCQ ⊢
        have HGQ : Hid (Chg (fun _ => False) w wq) := by rw [hwq]; exact HG.out.drewN nq
        clear hwq HCE HG b0 b1 b2 k0 k1 k2 hlb hlb2 g0 g1 g2
        obtain ⟨b0, b1, b2, k0, k1, k2, hlb, hlb2⟩ := HCQ.out
        clear HCQ
        go_wp2
        exact ⟨⟨r + 1, wq.heap.size, by go_num, rfl, hrn, hide (HN3.out _ _ (HGQ.out.alloc _) (Blk.new _ _ _))⟩, by simp [intOf]; omega⟩
      · have HF : Hid (∃ q, (r : Int) = (q.length : Int) ∧ LcpC C U q) := (⟨q, by rw [HQ.out], HS.out.on, HW0.out, fun x hx => by
          rw [hc] at hx
          injection hx with hx _
          rw [← hx]
          omega⟩ : ∃ q, (r : Int) = (q.length : Int) ∧ LcpC C U q)
        have HG := hide HS.out.gr
        have hd1 : decide ((U (q ++ [c]) : Int) ≥ (U q : Int)) = false := by simp; omega
        have hd2 : decide ((U q : Int) ≤ (U (q ++ [c]) : Int)) = false := by simp; omega
        have hd3 : decide (U q ≤ U (q ++ [c])) = false := by simp; omega
        clear HS hc HC hL3 HL3 hone HW0 hL1
        generalize U (q ++ [c]) = uc at *
        generalize U q = uq at *
        go_wp2
        go_quiet (fail)
        go_wp2
        go_ret
        obtain ⟨q', h1, h2⟩ := HF.out
        exact ⟨q', by rw [← h1]; rfl, h2, HG.out.drewN _⟩
    · have HF : Hid (∃ q, (r : Int) = (q.length : Int) ∧ LcpC C U q) := (⟨q, by rw [HQ.out], HS.out.on, HS.out.walk, fun x hx => by
        rw [hx] at hone
        exact absurd rfl hone⟩ : ∃ q, (r : Int) = (q.length : Int) ∧ LcpC C U q)
      have HG := hide HS.out.gr
      have he1 : (((C q).length : Int) == 1) = false := by rw [beq_eq_false_iff_ne]; omega
      clear HS hL1
      generalize (C q).length = nn at *
      generalize U q = uq at *
      go_wp2
      go_quiet (fail)
      go_wp2
      go_ret
      obtain ⟨q', h1, h2⟩ := HF.out
      exact ⟨q', by rw [← h1]; rfl, h2, HG.out.drewN _⟩
end Go.Proofs.Ytaihafoopoaahaa
