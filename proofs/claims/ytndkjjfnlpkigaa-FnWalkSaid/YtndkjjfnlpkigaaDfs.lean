/- The walk of dfsRecursive: what a call finds, for every graph. -/
import Derived.Test.YtndkjjfnlpkigaaPath
namespace Go.Proofs.Ytndkjjfnlpkigaa
open Go.RowKit
open Go.ChangeMaps (setBlock)

set_option maxHeartbeats 2000000 in
theorem dfs_any (gb M : Nat) (K : Nat → Prop) (A PA : Option Addr) (kk c : Nat) (G : List (List Int)) (z : Int) (U : List Int) (hU : ∀ x ∈ U, ∀ y ∈ adj G x, y ∈ U) (hfit : ∀ g ∈ G, g.length ≤ 2147483647) (hKM : ¬ K M) (hgM : gb ≠ M) (hUl : U.length ≤ 1099511627776) :
    ∀ (m : Nat) (S : List Int) (u : Int) (w : World), fresh U S ≤ m → u ∈ U → Blk w gb 43 #[.slice A kk c, .map (some M)] → GrIn w K A kk G → Marks w M S →
    Calls Try.prog 24 #[.iface 40 (.pointer (some ⟨gb, 0, none⟩)), .func (.func 17) #[] #[], tval u, tval z, .slice PA 0 0] w (DfsPost M G z U S u PA w) := by
  intro m
  induction m with
  | zero =>
    intro S u w hm hu hb hg hs
    refine dfs_seen gb M A PA kk c G z U S u w hb hs ?_
    exact Classical.byContradiction fun h => by have := fresh_pos hu h; omega
  | succ m ih =>
    intro S u w hm hu hb hg hs
    by_cases hin : u ∈ S
    · exact dfs_seen gb M A PA kk c G z U S u w hb hs hin
    · have hmv := meth_visited ⟨gb, 0, none⟩
      have hme := meth_edges ⟨gb, 0, none⟩
      have IH := hide ih
      have HB := hide hb
      have HG := hide hg
      have HS := hide hs
      have HU := hide hU
      have HF := hide hfit
      have HI := hide hin
      have HUL := hide hUl
      have HKM := hide hKM
      have HGM := hide hgM
      have HUm := hide hu
      clear hg hs hU hfit ih hUl hKM hgM hu
      have hd : decide (u ∈ S) = false := by simpa using hin
      unfold tval
      go_enter Try.func24, Try.ntmps24
      go_wp2_with fail
      refine (gvisited_any gb M _ S u _ HB.out HS.out).mono ?_
      rw [hd]
      rintro e w1 ⟨rfl, hm1, hc1⟩
      have HM1 := hide hm1
      have HC1 := hide hc1
      have hb1 := hide (hb.chg hc1 HGM.out)
      have hg1 := hide (HG.out.chg hc1 (fun i _ hk e => HKM.out (e ▸ hk)))
      clear hm1 hc1 hb hd hin
      go_wp2_with fail
      refine (gedges_any gb M K A kk c G u _ hb1.out hg1.out HF.out).mono ?_
      rintro e w2 ⟨v, rfl, hown, hbel⟩
      obtain ⟨EA, ec, rfl, hre⟩ := own_reads hown
      have HR := hide hre
      have HB2 := hide hbel
      have hlen : Hid ((adj G u).length ≤ 2147483647) := by
        have hF := HF.out
        unfold adj
        show (if u < 0 then [] else G.getD u.toNat []).length ≤ 2147483647
        split
        · simp
        · rw [List.getD_eq_getElem?_getD]
          cases hgu : G[u.toNat]? with
          | none => simp
          | some g => exact hF g (List.mem_of_getElem? hgu)
      have hyU : Hid (∀ y ∈ adj G u, y ∈ U) := fun y hy => HU.out u HUm.out y hy
      clear hown hre hbel
      generalize hys : adj G u = ys at *
      have HYS := hide hys
      clear hys
      have hlen' := hlen.out
      go_wp2_with fail
      have e13 := info44
      obtain ⟨i0, hi, hz0, hz1, hz2⟩ := info_parts e13
      have hMw : Hid (M < w.heap.size) := by obtain ⟨L, hL, _⟩ := HS.out; exact hL.lt
      clear e13
      go_loopw [22] (fun i wr => ∃ (j : Nat) (T : List Int), j ≤ ys.length ∧ i = .int .i64 j ∧ Marks wr M T ∧ Chg (· = M) w2 wr ∧ DfsInv G z S u (ys.take j) T) (fun i _ => ys.length - (intOf i).toNat)
      case atStart =>
        refine ⟨0, u :: S, Nat.zero_le _, rfl, ?_, Chg.refl _ _, ⟨fun x hx => hx, fun y hy => by simp at hy, fun x hx hn => (hn hx).elim⟩⟩
        obtain ⟨L, hL, hsn⟩ := HM1.out
        exact ⟨L, hL.of_block (HB2.out.block M (by have := hMw.out; have := HC1.out.size; omega)), hsn⟩
      case round =>
        obtain ⟨j, T, hj, rfl, hmr, hcr, hinv⟩ := hrel
        by_cases hlt : j < ys.length
        · have hlj : j < ys.length := hlt
          obtain ⟨ad, y0, rfl, _, hx, hc⟩ := (HR.out.chg hcr (fun i _ hk e => by have := hMw.out; have := HC1.out.size; omega)).at_ hlt
          obtain ⟨y, hyj⟩ : ∃ y, y = ys.getD j 0 := ⟨_, rfl⟩
          have hy0 : y0 = .iface 3 (.int .i64 y) := by
            rw [List.getElem?_map, List.getElem?_eq_getElem hlj] at hx
            have h1 : tval ys[j] = y0 := by simpa using hx
            rw [← h1, hyj, List.getD_eq_getElem?_getD, List.getElem?_eq_getElem hlj]; rfl
          subst hy0
          have HY1 : Hid (y ∈ U) := hyU.out y (getD_mem hyj hlj)
          have HY := hide hyj
          have HMr := hide hmr
          have HCr := hide hcr
          have HIn := hide hinv
          clear hx hyj hmr hcr hinv
          have hcall := patheq_any y z wr
          unfold tval at hcall
          go_wp2_with fail
          refine hcall.mono ?_
          rintro e w3 ⟨rfl, rfl⟩
          clear hcall
          have hC0 : Hid (Chg (· = M) w wr) := HC1.out.trans ((Chg.ofBelow HB2.out (· = M)).trans HCr.out (fun _ _ h => h)) (fun _ _ h => h)
          by_cases hyz : y = z
          · subst hyz
            have tr : (y == y) = true := by simp
            have HP := hide (fresh_pos HUm.out HI.out)
            go_wp2_with (at_builtin; go_must (refine wpList_append_grows _ rfl _ _ 38 rfl 44 i0 .nilIface 1 16 Try.underlying38 hi hz0 hz1 hz2 rfl (by decide) PA 0 0 [] rfl (fun _ => ⟨rfl, rfl⟩) rfl (fun _ _ j u h => by simp at h) ⟨wr.heap.size, 0, none⟩ 2 2 [tval y, tval u] rfl rfl (cell_two_new _ _ _ _) (by simp [tval, Value.oneCell']) (by omega) (by unfold maxLen; omega) (by omega) ?_); intro v' w1' hown' hgrow)
            have hz : y ∈ adj G u := by rw [HYS.out]; exact getD_mem HY.out hlj
            go_ret
            refine ⟨v', [y, u], T, rfl, Or.inr ⟨by simp, own_base hown' (by have := hC0.out.size; simp; omega)⟩, ?_, ?_, Found.at_once HIn.out hz, by have := HP.out; simp; omega⟩
            · obtain ⟨L, hL, hsn⟩ := HMr.out
              have hlM := hL.lt
              refine ⟨L, hL.of_block ((hgrow.block M (by simp; omega) (by simp)).trans (Below.heap_alloc _ _ _ hlM)), hsn⟩
            · exact (hC0.out.alloc _).trans (Chg.ofGrown (S := (· = M)) hgrow (fun g hg => by cases hg)) (fun _ _ h => h)
          · have hyz' : (y == z) = false := beq_eq_false_iff_ne.2 hyz
            have HYZ := hide hyz
            clear hyz
            go_wp2_with fail
            have hf : fresh U T ≤ m := by
              have h1 := fresh_lt HUm.out HI.out (HIn.out.sub u (List.mem_cons_self ..)) (fun x hx => HIn.out.sub x (List.mem_cons_of_mem _ hx))
              omega
            have hbr : Blk wr gb 43 #[.slice A kk c, .map (some M)] := (hb1.out.below HB2.out hb1.out.lt).chg HCr.out HGM.out
            have hgr : GrIn wr K A kk G := (hg1.out.chg (Chg.ofBelow HB2.out (· = M)) (fun i _ hk e => HKM.out (e ▸ hk))).chg HCr.out (fun i _ hk e => HKM.out (e ▸ hk))
            refine (IH.out T y _ hf HY1.out hbr hgr HMr.out).mono ?_
            rintro e w3 ⟨v, xs, T', rfl, hv, hm3, hc3, hfd, hxl⟩
            have HM3 := hide hm3
            have HC3 := hide hc3
            have HFD := hide hfd
            have HF := hide hf
            have HXL := hide hxl
            clear hbr hgr hm3 hc3 hfd hf hxl
            rcases hv with ⟨rfl, rfl⟩ | ⟨hne, hown⟩
            · go_wp2
              go_roundw
              case rel =>
                refine ⟨j + 1, T', by omega, by go_num, HM3.out, HCr.out.trans HC3.out (fun _ _ h => h), ?_⟩
                rw [take_succ_getD HY.out hlj]
                exact HIn.out.step HFD.out HYZ.out
              case measure => simp [intOf]; omega
            · obtain ⟨XA, xc, rfl, hrx⟩ := own_reads hown
              have HO := hide hown
              have hxp : 0 < xs.length := List.length_pos_iff.2 hne
              have HN := hide hne
              have hxl2 : xs.length ≤ 1099511627777 := by have h1 := HXL.out; have h2 := fresh_le U T; have h3 := HUL.out; omega
              have hS3 := HC3.out.size
              clear hrx hne hown
              go_wp2_with (at_builtin; go_must (refine wpList_append_own _ rfl _ _ 38 rfl wr.heap.size 44 i0 .nilIface 1 16 Try.underlying38 hi hz0 hz1 hz2 rfl (by decide) _ _ _ rfl (HO.out.alloc _) ⟨w3.heap.size, 0, none⟩ 1 1 [tval u] rfl rfl (cell_one_new _ _ _) (by simp [tval, Value.oneCell']) (by unfold maxLen; omega) (by omega) (by simp; omega) ?_); intro v' w4 hown' hgrow _)
              have hy : y ∈ adj G u := by rw [HYS.out]; exact getD_mem HY.out hlj
              go_ret
              refine ⟨v', xs ++ [u], T', rfl, Or.inr ⟨by simp, ?_⟩, ?_, ?_, Found.further HIn.out HFD.out HN.out hy, ?_⟩
              · have h9 : tvals (xs ++ [u]) = tvals xs ++ [tval u] := List.map_append
                rw [h9, List.length_append]
                exact own_base hown' hC0.out.size
              · obtain ⟨L, hL, hsn⟩ := HM3.out
                have hlM := hL.lt
                refine ⟨L, hL.of_block ((hgrow.block M (by simp; omega) ?_).trans (Below.heap_alloc _ _ _ hlM)), hsn⟩
                intro e
                have h5 := (HO.out.lt M e.symm).1
                have h6 := hMw.out
                have h7 := hC0.out.size
                omega
              · exact own_append_chg HO.out (hC0.out.trans HC3.out (fun _ _ h => h)) hgrow (fun i h1 h2 => by have := hC0.out.size; omega)
              · have h1 := fresh_lt HUm.out HI.out (HIn.out.sub u (List.mem_cons_self ..)) (fun x hx => HIn.out.sub x (List.mem_cons_of_mem _ hx))
                have h2 := HXL.out
                simp; omega
        · have hjl : j = ys.length := by omega
          have hfin : Hid (Found G z S u T []) := by
            apply Found.no_way
            rw [hjl, List.take_length] at hinv
            rw [HYS.out]; exact hinv
          have HMr := hide hmr
          have HCr := hide hcr
          clear hmr hcr hinv hjl
          go_wp2
          go_ret
          refine ⟨.slice PA 0 0, [], T, rfl, Or.inl ⟨rfl, rfl⟩, HMr.out, ?_, hfin.out, by simp⟩
          exact HC1.out.trans ((Chg.ofBelow HB2.out (· = M)).trans HCr.out (fun _ _ h => h)) (fun _ _ h => h)
end Go.Proofs.Ytndkjjfnlpkigaa
