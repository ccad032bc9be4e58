/- The walk of the reference's Far: it hands back the nodes and their distances, as the plain stages say. -/
import Derived.Test.YtndkjjfnlpkigaaGr
import Derived.Deep.RegionHeld3
namespace Go.Proofs.Ytndkjjfnlpkigaa
open Go.RowKit
open Go.ChangeMaps (setBlock)

/-- The two slices of Far, and what the next distance is reckoned from. -/
structure FarS (B g h cg ch n i : Nat) (N F : List Int) (d : Int) (H : Nat) (w : World) : Prop where
  nOwn : w.ownsRow B 3 1 (.slice (some ⟨g, 0, none⟩) n cg) n (ints N)
  fOwn : w.ownsRow B 3 1 (.slice (some ⟨h, 0, none⟩) n ch) n (ints F)
  cell : w.cell? ⟨h, i, none⟩ = some (.int .i64 d)
  size : H ≤ w.heap.size

theorem FarS.alloc {B g h cg ch n i : Nat} {N F : List Int} {d : Int} {H : Nat} {w : World} (s : FarS B g h cg ch n i N F d H w) (o : Obj) : FarS B g h cg ch n i N F d H (w.alloc o) :=
  ⟨s.nOwn.alloc o, s.fOwn.alloc o, by rw [World.cell?_alloc_lt _ _ _ (World.block_lt_of_cell? w _ s.cell)]; exact s.cell, by simp; exact Nat.le_succ_of_le s.size⟩
theorem FarS.base {B g h cg ch n i : Nat} {N F : List Int} {d : Int} {H : Nat} {w : World} (s : FarS B g h cg ch n i N F d H w) : B ≤ w.heap.size := by
  have := s.nOwn.lt g rfl
  omega
theorem FarS.allocDrew {B g h cg ch n i : Nat} {N F : List Int} {d : Int} {H : Nat} {w : World} (s : FarS B g h cg ch n i N F d H w.drew) (o : Obj) : FarS B g h cg ch n i N F d H (w.alloc o).drew := s.alloc o
theorem FarS.drew {B g h cg ch n i : Nat} {N F : List Int} {d : Int} {H : Nat} {w : World} (s : FarS B g h cg ch n i N F d H w) : FarS B g h cg ch n i N F d H w.drew := ⟨s.nOwn, s.fOwn, s.cell, s.size⟩

theorem FarS.afterN {B g h cg ch n i : Nat} {N F : List Int} {d : Int} {H : Nat} {w w' : World} (s : FarS B g h cg ch n i N F d H w) (hgh : g ≠ h) (hk : w'.ownsRow B 3 1 (.slice (some ⟨g, 0, none⟩) n cg) n (ints N))
    (hg : w.grownBy w' (some g)) : FarS B g h cg ch n i N F d H w' :=
  ⟨hk, s.fOwn.kept hg (Or.inr (by simp [Value.ownBlock]; exact fun e => hgh e.symm)), by rw [hg.cell_far _ (World.block_lt_of_cell? w _ s.cell) (by simp; exact fun e => hgh e.symm)]; exact s.cell, Nat.le_trans s.size hg.size⟩
theorem FarS.afterF {B g h cg ch n i : Nat} {N F : List Int} {d : Int} {H : Nat} {w w' : World} (s : FarS B g h cg ch n i N F d H w) (hgh : g ≠ h) (hin : i < n) (hd : F[i]? = some d) (hk : w'.ownsRow B 3 1 (.slice (some ⟨h, 0, none⟩) n ch) n (ints F))
    (hg : w.grownBy w' (some h)) : FarS B g h cg ch n i N F d H w' :=
  ⟨s.nOwn.kept hg (Or.inr (by simp [Value.ownBlock]; exact hgh)), hk, by rw [hk.cellAt i (by omega), List.getElem?_map, hd]; rfl, Nat.le_trans s.size hg.size⟩

/-- Far's two slices between two statements. -/
def FarRel (w0 : World) (p : List Int × List Int) (v4 v5 : Value) (wr : World) : Prop :=
  ∃ g h cg ch, v4 = .slice (some ⟨g, 0, none⟩) p.1.length cg ∧ v5 = .slice (some ⟨h, 0, none⟩) p.1.length ch ∧ g ≠ h ∧ wr.ownsRow w0.heap.size 3 1 v4 p.1.length (ints p.1) ∧ wr.ownsRow w0.heap.size 3 1 v5 p.1.length (ints p.2) ∧ Below w0.heap.size w0 wr

/-- Two appends, the first slice's first. -/
theorem farEnd {w0 W0 wA W1 wF : World} {g2 h2 n gA cA gF cF : Nat} {q : List Int × List Int} {y d : Int} (hb0 : Below w0.heap.size w0 W0) (hg : w0.heap.size ≤ g2) (hh : w0.heap.size ≤ h2) (_hgl : g2 < W0.heap.size) (hhl : h2 < W0.heap.size) (hgh : g2 ≠ h2)
    (hA1 : wA.ownsRow w0.heap.size 3 1 (.slice (some ⟨gA, 0, none⟩) (n + 1) cA) (n + 1) (ints q.1 ++ [.int .i64 y])) (hA3 : W0.grownBy wA (some g2)) (hA4 : some g2 = some gA ∨ gA = W0.heap.size) (hA5 : gA < wA.heap.size)
    (h01 : wA.grownBy W1 none) (hF1 : wF.ownsRow w0.heap.size 3 1 (.slice (some ⟨gF, 0, none⟩) (n + 1) cF) (n + 1) (ints q.2 ++ [.int .i64 d])) (hF3 : W1.grownBy wF (some h2)) (hF4 : some h2 = some gF ∨ gF = W1.heap.size) (hn : q.1.length = n) (hy : y ∉ q.1) :
    FarRel w0 (addF d q y) (.slice (some ⟨gA, 0, none⟩) (n + 1) cA) (.slice (some ⟨gF, 0, none⟩) (n + 1) cF) wF := by
  have hs := hb0.size
  have hs1 := hA3.size
  have hs2 := h01.size
  have hAh : gA ≠ h2 := by
    rcases hA4 with h | h
    · injection h with h; omega
    · omega
  unfold addF
  rw [if_neg hy]
  have e1 : (q.1 ++ [y]).length = n + 1 := by simp [hn]
  have k1 : wF.ownsRow w0.heap.size 3 1 (.slice (some ⟨gA, 0, none⟩) (n + 1) cA) (n + 1) (ints q.1 ++ [.int .i64 y]) := (hA1.kept h01 (Or.inr (by simp [Value.ownBlock]))).kept hF3 (Or.inr (by simp [Value.ownBlock]; exact hAh))
  refine ⟨gA, gF, cA, cF, by rw [e1], by rw [e1], ?_, ?_, ?_, ?_⟩
  · rcases hF4 with h | h
    · injection h with h; omega
    · omega
  · rw [e1]; show wF.ownsRow _ _ _ _ _ (ints (q.1 ++ [y])); unfold ints; rw [List.map_append]; exact k1
  · rw [e1]; show wF.ownsRow _ _ _ _ _ (ints (q.2 ++ [d])); unfold ints; rw [List.map_append]; exact hF1
  · refine ((hb0.grown hA3 hs (fun k hk => ?_)).grown h01 (by omega) (fun k hk => by cases hk)).grown hF3 (by omega) (fun k hk => ?_)
    · injection hk with hk; omega
    · injection hk with hk; omega

/-- .. and the second slice's first. -/
theorem farEnd' {w0 W0 wF W1 wA : World} {g2 h2 n gA cA gF cF : Nat} {q : List Int × List Int} {y d : Int} (hb0 : Below w0.heap.size w0 W0) (hg : w0.heap.size ≤ g2) (hh : w0.heap.size ≤ h2) (hgl : g2 < W0.heap.size) (_hhl : h2 < W0.heap.size) (hgh : g2 ≠ h2)
    (hF1 : wF.ownsRow w0.heap.size 3 1 (.slice (some ⟨gF, 0, none⟩) (n + 1) cF) (n + 1) (ints q.2 ++ [.int .i64 d])) (hF3 : W0.grownBy wF (some h2)) (hF4 : some h2 = some gF ∨ gF = W0.heap.size) (hF5 : gF < wF.heap.size)
    (h01 : wF.grownBy W1 none) (hA1 : wA.ownsRow w0.heap.size 3 1 (.slice (some ⟨gA, 0, none⟩) (n + 1) cA) (n + 1) (ints q.1 ++ [.int .i64 y])) (hA3 : W1.grownBy wA (some g2)) (hA4 : some g2 = some gA ∨ gA = W1.heap.size) (hn : q.1.length = n) (hy : y ∉ q.1) :
    FarRel w0 (addF d q y) (.slice (some ⟨gA, 0, none⟩) (n + 1) cA) (.slice (some ⟨gF, 0, none⟩) (n + 1) cF) wA := by
  have hs := hb0.size
  have hs1 := hF3.size
  have hs2 := h01.size
  have hFg : gF ≠ g2 := by
    rcases hF4 with h | h
    · injection h with h; omega
    · omega
  unfold addF
  rw [if_neg hy]
  have e1 : (q.1 ++ [y]).length = n + 1 := by simp [hn]
  have k1 : wA.ownsRow w0.heap.size 3 1 (.slice (some ⟨gF, 0, none⟩) (n + 1) cF) (n + 1) (ints q.2 ++ [.int .i64 d]) := (hF1.kept h01 (Or.inr (by simp [Value.ownBlock]))).kept hA3 (Or.inr (by simp [Value.ownBlock]; exact hFg))
  refine ⟨gA, gF, cA, cF, by rw [e1], by rw [e1], ?_, ?_, ?_, ?_⟩
  · rcases hA4 with h | h
    · injection h with h; omega
    · omega
  · rw [e1]; show wA.ownsRow _ _ _ _ _ (ints (q.1 ++ [y])); unfold ints; rw [List.map_append]; exact hA1
  · rw [e1]; show wA.ownsRow _ _ _ _ _ (ints (q.2 ++ [d])); unfold ints; rw [List.map_append]; exact k1
  · refine ((hb0.grown hF3 hs (fun k hk => ?_)).grown h01 (by omega) (fun k hk => by cases hk)).grown hA3 (by omega) (fun k hk => ?_)
    · injection hk with hk; omega
    · injection hk with hk; omega

theorem Reads.move {w w' : World} {K : Nat → Prop} {size n : Nat} {A : Option Addr} {xs : List Value} (h : Reads w K size A n xs) (hs : ∀ i, K i → i < w'.heap.size) (hk : ∀ p : Addr, K p.block → w'.cell? p = w.cell? p) : Reads w' K size A n xs :=
  ⟨h.1, fun hn => by
    obtain ⟨ad, e, hb, _, hc⟩ := h.2 hn
    exact ⟨ad, e, hb, hs _ hb, fun j u hu => (hk _ (by rw [block_of_add]; exact hb)).trans (hc j u hu)⟩⟩

theorem own_new1 (w : World) (B e : Nat) (x : Value) (hB : B ≤ w.heap.size) : (w.alloc (.cells #[x] e)).ownsRow B e 1 (.slice (some ⟨w.heap.size, 0, none⟩) 1 1) 1 [x] :=
  ⟨rfl, .inr ⟨w.heap.size, 1, _, rfl, hB, heap_alloc_new w _, Nat.le_refl _, by simp [maxLen], rfl, rfl⟩⟩

set_option maxHeartbeats 4000000 in
theorem far_any (K : Nat → Prop) (A : Option Addr) (kk c : Nat) (G : List (List Int)) (a : Int) (hfit : ∀ g ∈ G, g.length ≤ 2147483647) (hk : G.flatten.length < 1099511627776) (w : World) (hg : GrIn w K A kk G) (hK : ∀ i, K i → i < w.heap.size) :
    Calls Try.prog 10 #[.slice A kk c, .int .i64 a] w fun e w' => ∃ k v4 v5, k = (stage G a k).1.length ∧ e = .returned (.tuple #[v4, v5]) ∧ FarRel w (stage G a k) v4 v5 w' := by
  obtain ⟨i0, hi, hz0, hz1, hz2⟩ := info_parts info3b
  have HG := hide hg
  have HF := hide hfit
  have HL := hide hk
  have HKs := hide hK
  clear hg hfit hk hK
  have hst : FarRel w (stage G a 0) (.slice (some ⟨w.heap.size, 0, none⟩) 1 1) (.slice (some ⟨w.heap.size + 1, 0, none⟩) 1 1) ((w.alloc (.cells #[.int .i64 a] 3)).alloc (.cells #[.int .i64 0] 3)) := by
    refine ⟨_, _, 1, 1, rfl, rfl, by omega, ?_, ?_, ((Below.refl _ _).alloc (Nat.le_refl _) _).alloc (by simp) _⟩
    · exact (own_new1 w w.heap.size 3 (.int .i64 a) (Nat.le_refl _)).alloc _
    · have := own_new1 (w.alloc (.cells #[.int .i64 a] 3)) w.heap.size 3 (.int .i64 0) (by simp)
      rw [World.size_alloc] at this
      exact this
  have HST := hide hst
  clear hst
  go_enter Try.func10, Try.ntmps10
  go_wp2
  go_loopw [4, 5, 6] (fun v4 v5 i wr => ∃ k : Nat, i = .int .i64 k ∧ k ≤ (stage G a k).1.length ∧ FarRel w (stage G a k) v4 v5 wr) (fun _ _ i _ => 1099511627777 - (intOf i).toNat)
  case atStart => exact ⟨0, rfl, Nat.zero_le _, HST.out⟩
  case round =>
    obtain ⟨k, rfl, hkl, hrel⟩ := hrel
    have hgood := stage_good G a k
    have hnl : (stage G a k).1.length ≤ 1099511627776 := by
      have h1 := nodup_le _ (a :: G.flatten) hgood.nodup hgood.mem
      have h2 := HL.out
      rw [List.length_cons] at h1; omega
    obtain ⟨g, h, cg, ch, rfl, rfl, hgh, hN, hF, hbel⟩ := hrel
    have HGo := hide hgood
    have HBel := hide hbel
    have HGH := hide hgh
    by_cases hlt : k < (stage G a k).1.length
    · have hcell := hN.cellAt k (by omega)
      obtain ⟨x, hx⟩ : ∃ x, (stage G a k).1[k]? = some x := ⟨_, List.getElem?_eq_getElem hlt⟩
      rw [List.getElem?_map, hx] at hcell
      simp only [Option.map_some] at hcell
      have HX := hide hx
      have HN := hide hN
      have HFo := hide hF
      have hgr : GrIn wr K A kk G := HG.out.keep hbel.size (fun p hp _ => hbel.cell hp)
      have HGR := hide hgr
      generalize hp : stage G a k = p at *
      have HP := hide hp
      clear hp hx hN hF hgood hbel hgh hgr
      generalize hn : p.1.length = n at *
      have HNn := hide hn
      clear hn
      go_wp2_with fail
      refine (edges_any K A kk c G x _ HGR.out).mono ?_
      rintro e w1 ⟨EA, ec, rfl, hym, hre, rfl⟩
      generalize hys : adj G x = ys at *
      have HYS := hide hys
      have HR := hide hre
      unfold maxLen at hym
      clear hys hre
      go_wp2_with fail
      generalize hwo : wr = wo at *
      have hd0 : ∃ d0, p.2[k]? = some d0 := ⟨_, List.getElem?_eq_getElem (by rw [← HGo.out.len, HNn.out]; exact hlt)⟩
      obtain ⟨d0, hd0⟩ := hd0
      have HD0 := hide hd0
      have hdb := HGo.out.bound k d0 hd0
      clear hd0 hwo
      go_loopw [4, 5, 25] (fun v4 v5 i wr => ∃ j : Nat, i = .int .i64 j ∧ j ≤ ys.length ∧ FarRel w (extF (d0 + 1) p (ys.take j)) v4 v5 wr) (fun _ _ i _ => ys.length - (intOf i).toNat)
      case atStart =>
        refine ⟨0, rfl, Nat.zero_le _, ?_⟩
        show FarRel w p _ _ _
        exact ⟨g, h, cg, ch, by rw [HNn.out], by rw [HNn.out], HGH.out, by rw [HNn.out]; exact HN.out, by rw [HNn.out]; exact HFo.out, HBel.out⟩
      case round =>
        obtain ⟨j, rfl, hjl, hrel⟩ := hrel
        have hq : Good G a (extF (d0 + 1) p (ys.take j)) := by
          refine extF_good (by omega) _ _ HGo.out (by rw [HNn.out]; omega) (fun v hv => List.mem_cons_of_mem _ (adj_mem (x := x) ?_))
          rw [HYS.out]; exact List.mem_of_mem_take hv
        have hqd : (extF (d0 + 1) p (ys.take j)).2[k]? = some d0 := pre_get (extF_pre _ _).2 HD0.out
        have hql : (extF (d0 + 1) p (ys.take j)).1.length ≤ 1099511627776 := by
          have h1 := nodup_le _ (a :: G.flatten) hq.nodup hq.mem
          have h2 := HL.out
          rw [List.length_cons] at h1; omega
        have hqk : k < (extF (d0 + 1) p (ys.take j)).1.length := by
          have h1 := (extF_pre (d := d0 + 1) (ys.take j) p).1.length_le
          rw [HNn.out] at h1; omega
        have HQR := hide hrel
        have HQ := hide hq
        have HQD := hide hqd
        clear hrel hq hqd
        by_cases hlj : j < ys.length
        · have hre2 : Reads wr K 1 EA ys.length (ints ys) := by
            obtain ⟨_, _, _, _, _, _, _, _, _, hb2⟩ := HQR.out
            exact HR.out.move (fun i hi => Nat.lt_of_lt_of_le (HKs.out i hi) hb2.size) (fun p hp => (hb2.cell (HKs.out _ hp)).trans (HBel.out.cell (HKs.out _ hp)).symm)
          obtain ⟨ad, u, rfl, _, hx, hc⟩ := hre2.at_ hlj
          obtain ⟨rfl, _⟩ := ints_at hx
          obtain ⟨y, hyj⟩ : ∃ y, y = ys.getD j 0 := ⟨_, rfl⟩
          rw [← hyj] at hc
          have HY := hide hyj
          have hstep : extF (d0 + 1) p (ys.take (j + 1)) = addF (d0 + 1) (extF (d0 + 1) p (ys.take j)) y := by
            rw [take_succ_getD HY.out hlj, extF_snoc]
          have HSt := hide hstep
          clear hx hyj hre2 hstep
          generalize extF (d0 + 1) p (ys.take j) = q at *
          obtain ⟨g2, h2, cg2, ch2, e4, e5, hgh2, hN2, hF2, hbel2⟩ := HQR.out
          clear HQR
          subst e4 e5
          have HN2 := hide hN2
          have HF2 := hide hF2
          have HB2 := hide hbel2
          have HGH2 := hide hgh2
          have hrn := Reads.of_own hN2
          have HRN := hide hrn
          clear hN2 hF2 hbel2 hgh2 hrn
          generalize hn2 : q.1.length = n2 at *
          have HN2n := hide hn2
          clear hn2
          by_cases hin : y ∈ q.1
          · have hin' : decide (y ∈ q.1) = true := by simpa using hin
            have HIN := hide hin
            clear hin
            go_wp2_with fail
            refine (has_any _ _ n2 cg2 q.1 y _ HRN.out (by omega)).mono ?_
            rw [hin']
            rintro e w3 ⟨rfl, rfl⟩
            clear hin'
            go_wp2
            go_roundw
            case rel =>
              refine ⟨j + 1, by go_num, by omega, ?_⟩
              rw [HSt.out]
              unfold addF
              rw [if_pos HIN.out]
              exact ⟨g2, h2, cg2, ch2, by rw [HN2n.out], by rw [HN2n.out], HGH2.out, by rw [HN2n.out]; exact HN2.out, by rw [HN2n.out]; exact HF2.out, HB2.out⟩
            case measure => simp [intOf]; omega
          · have hin' : decide (y ∈ q.1) = false := by simpa using hin
            have HIN := hide hin
            clear hin
            go_wp2_with fail
            refine (has_any _ _ n2 cg2 q.1 y _ HRN.out (by omega)).mono ?_
            rw [hin']
            rintro e w3 ⟨rfl, rfl⟩
            clear hin'
            have hS0 : FarS w.heap.size g2 h2 cg2 ch2 n2 k q.1 q.2 d0 wr.heap.size wr :=
              ⟨HN2.out, HF2.out, by rw [HF2.out.cellAt k (by omega), List.getElem?_map, HQD.out]; rfl, Nat.le_refl _⟩
            have HW : IntKind.i64.wrap (d0 + 1) = d0 + 1 := IntWalk.i64_in _ (by omega)
            have hbs := HB2.out.size
            have hgb := HN2.out.lt g2 rfl
            have hhb := HF2.out.lt h2 rfl
            go_wp2_with fail
            go_region_held3 (fun w' => w'.cell? ⟨h2, k, none⟩ = some (.int .i64 d0) ∧ FarS w.heap.size g2 h2 cg2 ch2 n2 k q.1 q.2 d0 wr.heap.size w')
              (first
                | assumption
                | exact ⟨hS0.cell, hS0.drew⟩
                | exact ⟨(FarS.allocDrew (show World.cell? _ ⟨h2, k, none⟩ = some (.int .i64 d0) ∧ FarS w.heap.size g2 h2 cg2 ch2 n2 k q.1 q.2 d0 wr.heap.size _ from by assumption).2 _).cell, FarS.allocDrew (show World.cell? _ ⟨h2, k, none⟩ = some (.int .i64 d0) ∧ FarS w.heap.size g2 h2 cg2 ch2 n2 k q.1 q.2 d0 wr.heap.size _ from by assumption).2 _⟩
                | exact ⟨(FarS.alloc (show World.cell? _ ⟨h2, k, none⟩ = some (.int .i64 d0) ∧ FarS w.heap.size g2 h2 cg2 ch2 n2 k q.1 q.2 d0 wr.heap.size _ from by assumption).2 _).cell, FarS.alloc (show World.cell? _ ⟨h2, k, none⟩ = some (.int .i64 d0) ∧ FarS w.heap.size g2 h2 cg2 ch2 n2 k q.1 q.2 d0 wr.heap.size _ from by assumption).2 _⟩
                | exact ⟨hSA.cell, hSA⟩
                | exact ⟨hSF.cell, hSF⟩
                | fail)
              ((first
                | (refine step_append1 (by rfl) (.tmp 33) (.tmp 35) 26 (by rfl) w.heap.size 3 i0 (.int .i64 0) 8 Try.underlying26 hi hz0 hz1 hz2 rfl (.slice (some ⟨g2, 0, none⟩) n2 cg2) n2 (ints q.1) (by rfl) (show World.cell? _ ⟨h2, k, none⟩ = some (.int .i64 d0) ∧ FarS w.heap.size g2 h2 cg2 ch2 n2 k q.1 q.2 d0 wr.heap.size _ from by assumption).2.nOwn _ 1 (.int .i64 y) (by rfl) ?_ rfl (by unfold maxLen; omega) (by omega) (show World.cell? _ ⟨h2, k, none⟩ = some (.int .i64 d0) ∧ FarS w.heap.size g2 h2 cg2 ch2 n2 k q.1 q.2 d0 wr.heap.size _ from by assumption).2.base ?_
                   · first
                       | (simp; done)
                       | (try rw [World.cell?_drew]
                          refine (World.cell?_alloc_lt _ _ _ ?_).trans ?_
                          · (simp; done)
                          · (simp; done))
                       | (refine (hF3.cell_far _ ?_ ?_).trans ?_
                          · (simp; try omega)
                          · (simp [Value.ownBlock]; omega)
                          · first
                              | (simp; done)
                              | (try rw [World.cell?_drew]
                                 refine (World.cell?_alloc_lt _ _ _ ?_).trans ?_
                                 · (simp; done)
                                 · (simp; done)))
                       | (refine (hA3.cell_far _ ?_ ?_).trans ?_
                          · (simp; try omega)
                          · (simp [Value.ownBlock]; omega)
                          · first
                              | (simp; done)
                              | (try rw [World.cell?_drew]
                                 refine (World.cell?_alloc_lt _ _ _ ?_).trans ?_
                                 · (simp; done)
                                 · (simp; done)))
                       | fail
                   intro gA cA wA hA1 hA2 hA3 hA4 hA5
                   have hSA := FarS.afterN (show World.cell? _ ⟨h2, k, none⟩ = some (.int .i64 d0) ∧ FarS w.heap.size g2 h2 cg2 ch2 n2 k q.1 q.2 d0 wr.heap.size _ from by assumption).2 HGH2.out hA2 hA3)
                | (refine step_append1 (by rfl) (.tmp 37) (.tmp 43) 26 (by rfl) w.heap.size 3 i0 (.int .i64 0) 8 Try.underlying26 hi hz0 hz1 hz2 rfl (.slice (some ⟨h2, 0, none⟩) n2 ch2) n2 (ints q.2) (by rfl) (show World.cell? _ ⟨h2, k, none⟩ = some (.int .i64 d0) ∧ FarS w.heap.size g2 h2 cg2 ch2 n2 k q.1 q.2 d0 wr.heap.size _ from by assumption).2.fOwn _ 1 (.int .i64 (d0 + 1)) (by rfl) ?_ rfl (by unfold maxLen; omega) (by omega) (show World.cell? _ ⟨h2, k, none⟩ = some (.int .i64 d0) ∧ FarS w.heap.size g2 h2 cg2 ch2 n2 k q.1 q.2 d0 wr.heap.size _ from by assumption).2.base ?_
                   · first
                       | (simp; done)
                       | (try rw [World.cell?_drew]
                          refine (World.cell?_alloc_lt _ _ _ ?_).trans ?_
                          · (simp; done)
                          · (simp; done))
                       | (refine (hF3.cell_far _ ?_ ?_).trans ?_
                          · (simp; try omega)
                          · (simp [Value.ownBlock]; omega)
                          · first
                              | (simp; done)
                              | (try rw [World.cell?_drew]
                                 refine (World.cell?_alloc_lt _ _ _ ?_).trans ?_
                                 · (simp; done)
                                 · (simp; done)))
                       | (refine (hA3.cell_far _ ?_ ?_).trans ?_
                          · (simp; try omega)
                          · (simp [Value.ownBlock]; omega)
                          · first
                              | (simp; done)
                              | (try rw [World.cell?_drew]
                                 refine (World.cell?_alloc_lt _ _ _ ?_).trans ?_
                                 · (simp; done)
                                 · (simp; done)))
                       | fail
                   intro gF cF wF hF1 hF2 hF3 hF4 hF5
                   have hSF := FarS.afterF (show World.cell? _ ⟨h2, k, none⟩ = some (.int .i64 d0) ∧ FarS w.heap.size g2 h2 cg2 ch2 n2 k q.1 q.2 d0 wr.heap.size _ from by assumption).2 HGH2.out hqk HQD.out hF2 hF3)
                | fail))
            all_goals
              have HC1 := hide hA1
              have HC2 := hide hA3
              have HC3 := hide hA4
              have HC4 := hide hA5
              have HD1 := hide hF1
              have HD2 := hide hF3
              have HD3 := hide hF4
              have HD4 := hide hF5
              clear hA1 hA2 hA3 hA4 hA5 hSA hF1 hF2 hF3 hF4 hF5 hSF
              go_wp2
              go_roundw
              case measure => simp [intOf]; omega
              case rel =>
                refine ⟨j + 1, by go_num, by omega, ?_⟩
                rw [HSt.out]
                first
                  | (refine farEnd ?_ hgb.1 hhb.1 ?_ ?_ HGH2.out HC1.out HC2.out HC3.out HC4.out ?_ HD1.out HD2.out HD3.out HN2n.out HIN.out
                     · first
                         | exact (HB2.out.alloc hbs _).drew
                         | exact ((HB2.out.alloc hbs _).alloc (by simp; omega) _).drew
                     · simp; omega
                     · simp; omega
                     · first
                         | exact World.grownBy.refl _ _
                         | exact World.grownBy_alloc _ _ _)
                  | (refine farEnd' ?_ hgb.1 hhb.1 ?_ ?_ HGH2.out HD1.out HD2.out HD3.out HD4.out ?_ HC1.out HC2.out HC3.out HN2n.out HIN.out
                     · first
                         | exact (HB2.out.alloc hbs _).drew
                         | exact ((HB2.out.alloc hbs _).alloc (by simp; omega) _).drew
                     · simp; omega
                     · simp; omega
                     · first
                         | exact World.grownBy.refl _ _
                         | exact World.grownBy_alloc _ _ _)
        · have hje : j = ys.length := by omega
          have hnext : stage G a (k + 1) = extF (d0 + 1) p (ys.take j) := by
            have h1 : (stage G a k).1[k]? = some x := by rw [HP.out]; exact HX.out
            rw [stage_succ h1, HP.out, HYS.out, hje, List.take_length, List.getD_eq_getElem?_getD, HD0.out]
            rfl
          have HNX := hide hnext
          clear hnext hje
          obtain ⟨g2, h2, cg2, ch2, e4, e5, hgh2, hN2, hF2, hbel2⟩ := HQR.out
          clear HQR
          subst e4 e5
          have HN2 := hide hN2
          have HF2 := hide hF2
          have HB2 := hide hbel2
          have HGH2 := hide hgh2
          clear hN2 hF2 hbel2 hgh2
          generalize extF (d0 + 1) p (ys.take j) = q at *
          generalize hn2 : q.1.length = n2 at *
          have HN2n := hide hn2
          clear hn2
          go_wp2
          go_roundw
          case measure => simp [intOf]; omega
          case rel =>
            refine ⟨k + 1, by go_num, ?_, ?_⟩
            · rw [HNX.out, HN2n.out]; omega
            · rw [HNX.out]
              exact ⟨g2, h2, cg2, ch2, by rw [HN2n.out], by rw [HN2n.out], HGH2.out, by rw [HN2n.out]; exact HN2.out, by rw [HN2n.out]; exact HF2.out, HB2.out⟩
    · have hke : k = (stage G a k).1.length := by omega
      have HKE := hide hke
      have HN := hide hN
      have HFo := hide hF
      clear hke hN hF hgood hbel hgh
      generalize hp : stage G a k = p at *
      have HP := hide hp
      clear hp
      go_wp2
      go_ret2
      refine ⟨k, .slice (some ⟨g, 0, none⟩) p.1.length cg, .slice (some ⟨h, 0, none⟩) p.1.length ch, by rw [HP.out]; exact HKE.out, rfl, ?_⟩
      rw [HP.out]
      exact ⟨g, h, cg, ch, rfl, rfl, HGH.out, HN.out, HFo.out, HBel.out⟩
end Go.Proofs.Ytndkjjfnlpkigaa
