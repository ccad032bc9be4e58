/- The walk of BFS: what a call does, for every graph. Printed by gen_walk.py. -/
import Derived.Test.YtndkjjfnlpkigaaWst
import Derived.Test.YtndkjjfnlpkigaaPath
namespace Go.Proofs.Ytndkjjfnlpkigaa
open Go.RowKit

set_option maxHeartbeats 2000000 in
theorem fifo_any (f : WFix) (a : Int) (hfit : ∀ g ∈ f.G, g.length ≤ 2147483647) (hD : f.G.flatten.length < 1099511627776) (w : World) (hL : f.L = w.heap.size + 1)
    (hb : Blk w f.gb 43 #[.slice f.A f.kk f.c, .map (some f.M)]) (hm : Marks w f.M []) (ho : OrderVar w f.B f.O []) (hg : GrIn w f.K f.A f.kk f.G) (ht : w.cell? ⟨f.T, 0, none⟩ = some (.int .i64 f.to)) (hBw : f.B ≤ w.heap.size) :
    Calls Try.prog 21 #[.iface 40 (.pointer (some ⟨f.gb, 0, none⟩)), .func (.func 20) #[] #[.pointer (some ⟨f.O, 0, none⟩), .pointer (some ⟨f.T, 0, none⟩)], tval a] w fun e w' =>
      ∃ r ord, e = .returned (.bool r) ∧ OrderVar w' f.B f.O ord ∧ WalkEnd true f.G a f.to ord r ∧ Chg (f.B ≤ ·) w w' := by
  have hmv := meth_visited ⟨f.gb, 0, none⟩
  have hme := meth_edges ⟨f.gb, 0, none⟩
  have HF := hide hfit
  have HD := hide hD
  have HLL := hide hL
  have HB := hide hb
  have HM := hide hm
  have HO := hide ho
  have HG := hide hg
  have HT := hide ht
  clear hfit hD hb hm ho hg ht
  unfold tval
  go_enter Try.func21, Try.ntmps21
  go_wp2_with fail
  have hnew := fifo_new1 f.B w.heap.size 3 (.int .i64 a) (w.alloc (.cells #[.iface 3 (.int .i64 a)] 44)) (by simp; omega) ((Blk.new w 44 #[.iface 3 (.int .i64 a)]).cell 0)
  refine hnew.mono ?_
  clear hnew
  rintro e w1 ⟨rfl, hq1, hb1⟩
  rw [show (w.alloc (.cells #[.iface 3 (.int .i64 a)] 44)).heap.size = f.L by rw [World.size_alloc, hL]] at hq1 hb1 ⊢
  have HI : Hid (WI Fifo f w w1 [] [] (tvals [a])) := by
    have c0 : Chg (f.B ≤ ·) w w1 := ((Chg.refl (f.B ≤ ·) w).alloc (.cells #[.iface 3 (.int .i64 a)] 44)).trans (Chg.of_below (S := (f.B ≤ ·)) hb1 (fun i hi hB => by omega)) (fun _ _ h => h)
    have b0 : Below w.heap.size w w1 := ((Below.refl _ _).alloc (Nat.le_refl _) _).trans (hb1.mono (by omega))
    have c1 : Chg (fun _ => False) w w1 := Chg.ofBelow b0 _
    exact ⟨HB.out.chg c1 id, HM.out.chg c1 id, HO.out.chg c1 id (fun _ _ _ => id), hq1, c0, HG.out.chg c1 (fun _ _ _ => id), (c1.cell (p := ⟨f.T, 0, none⟩) (World.block_lt_of_cell? w _ HT.out) id).trans HT.out⟩
  clear hq1 hb1 hL
  go_wp2_with fail
  go_loopg [] (left f.G a [] [a]) (fun k wr => ∃ (ord q : List Int), WI Fifo f w wr ord ord (tvals q) ∧ WalkR true f.G a f.to ord q ∧ left f.G a ord q ≤ k)
  case atStart => exact ⟨[], [a], HI.out, WalkR.start, Nat.le_refl _⟩
  case round =>
    obtain ⟨ord, q, hi, hw, hk⟩ := hrel
    have HI2 := hide hi
    have HW := hide hw
    have HK := hide hk
    have hql := hw.qle
    have hol := hw.olen
    have HQL := hide hql
    have HOL := hide hol
    clear hi hw hk hql hol
    go_wp2_with fail
    refine (fifo_size f.B f.L (tvals q) _ HI2.out.q).mono ?_
    rintro e w2 ⟨rfl, rfl⟩
    cases q with
    | nil =>
      go_wp2
      go_ret
      exact ⟨false, ord, rfl, HI2.out.o, Or.inr ⟨rfl, HW.out⟩, HI2.out.c⟩
    | cons n q =>
      have hql2 : (tvals (n :: q)).length ≤ 1099511627777 := by have := HQL.out; have := HD.out; simp at *; omega
      have hlen : ((tvals (n :: q)).length : Int) = (q.length : Int) + 1 := by simp
      rw [hlen]
      have hq0 : (q.length : Int) ≤ 1099511627777 := by simp at hql2; omega
      clear hlen
      go_wp2_with fail
      refine (fifo_pop f.B f.L (tvals (n :: q)) _ HI2.out.q (by omega)).mono ?_
      rintro e w3 ⟨rfl, hq3, hc3⟩
      have hi3 : WI Fifo f w w3 ord ord (tvals q) := HI2.out.queue fifo_like (hc3.mono (fun i _ h => Or.inl h)) hq3
      have HI3 := hide hi3
      clear hi3 hq3 hc3
      have hv0 := gvisited_any f.gb f.M (.slice f.A f.kk f.c) ord n w3 HI3.out.b HI3.out.m
      have hhd : (tvals (n :: q)).headD .nilIface = .iface 3 (.int .i64 n) := rfl
      have hie : (!(tvals (n :: q)).isEmpty) = true := rfl
      rw [hhd, hie]
      clear hhd hie
      go_wp2_with fail
      by_cases hin : n ∈ ord
      · have hd : decide (n ∈ ord) = true := by simpa using hin
        rw [hd] at hv0
        have HIn := hide hin
        clear hin hd
        refine hv0.mono ?_
        clear hv0
        rintro e w4 ⟨rfl, hm4, hc4⟩
        have HI4 : Hid (WI Fifo f w w4 ord ord (tvals q)) := HI3.out.visit fifo_like hc4 (hm4.same (fun x => ⟨fun h => (List.mem_cons.1 h).elim (fun e => e ▸ HIn.out) id, fun h => List.mem_cons_of_mem _ h⟩))
        clear hm4 hc4
        go_wp2
        go_roundg (left f.G a ord q)
        case measure => exact Nat.lt_of_lt_of_le left_skip HK.out
        case rel => exact ⟨ord, q, HI4.out, HW.out.skip HIn.out, Nat.le_refl _⟩
      · have hd : decide (n ∈ ord) = false := by simpa using hin
        rw [hd] at hv0
        have HIn := hide hin
        clear hin hd
        refine hv0.mono ?_
        clear hv0
        rintro e w4 ⟨rfl, hm4, hc4⟩
        have HI4 : Hid (WI Fifo f w w4 (n :: ord) ord (tvals q)) := HI3.out.visit fifo_like hc4 hm4
        clear hm4 hc4
        have hwf := wf_any f.B f.O f.T ord n f.to w4 HI4.out.o HI4.out.t f.hT (by have := HOL.out; have := HD.out; omega)
        unfold tval at hwf
        go_wp2_with fail
        refine hwf.mono ?_
        clear hwf
        rintro e w5 ⟨rfl, ho5, hc5⟩
        have HI5 : Hid (WI Fifo f w w5 (n :: ord) (ord ++ [n]) (tvals q)) := HI4.out.note fifo_like hc5 ho5
        clear ho5 hc5
        by_cases hnt : n = f.to
        · have hbt : (n == f.to) = true := by simp [hnt]
          rw [hbt]
          have HNT := hide hnt
          clear hnt hbt
          go_wp2
          go_ret
          refine ⟨true, ord ++ [n], rfl, HI5.out.o, Or.inl ⟨rfl, ord, q, ?_, ?_, ?_⟩, HI5.out.c⟩
          · rw [show f.to :: q = n :: q by rw [HNT.out]]; exact HW.out
          · rw [← HNT.out]; exact HIn.out
          · rw [HNT.out]
        · have hbt : (n == f.to) = false := by simp [hnt]
          rw [hbt]
          have HNT := hide hnt
          clear hnt hbt
          have hed := gedges_any f.gb f.M f.K f.A f.kk f.c f.G n w5 HI5.out.b HI5.out.g HF.out
          go_wp2_with fail
          refine hed.mono ?_
          clear hed
          rintro e w6 ⟨v, rfl, hown, hbel⟩
          obtain ⟨EA, ec, rfl, hre⟩ := own_reads_ty hown
          have HI6 : Hid (WI Fifo f w w6 (n :: ord) (ord ++ [n]) (tvals q)) := HI5.out.below fifo_like hbel
          have HR := hide hre
          have hyl : (adj f.G n).length ≤ 1099511627776 := Nat.le_trans (adj_len f.G n) (Nat.le_of_lt HD.out)
          clear hown hbel hre
          generalize hys : adj f.G n = ys at *
          have HYS := hide hys
          have hql3 : q.length ≤ 1099511627777 := by have := HQL.out; have := HD.out; simp at *; omega
          clear hys hq0 hql2
          go_wp2_with fail
          go_loopw [33] (fun i wr => ∃ j : Nat, j ≤ ys.length ∧ i = .int .i64 j ∧ WI Fifo f w wr (n :: ord) (ord ++ [n]) (tvals (nextQ true (ys.take j) q)) ∧ Reads wr (fun i => ∃ cs, Blk wr i 44 cs) 1 EA ys.length (tvals ys)) (fun i _ => ys.length - (intOf i).toNat)
          case atStart =>
            refine ⟨0, Nat.zero_le _, rfl, ?_, HR.out⟩
            have : nextQ true (ys.take 0) q = q := by simp [nextQ]
            rw [this]; exact HI6.out
          case round =>
            obtain ⟨j, hj, rfl, hi7, hr7⟩ := hrel
            have HI7 := hide hi7
            have HR7 := hide hr7
            clear hi7 hr7
            by_cases hlt : j < ys.length
            · obtain ⟨ad, y0, rfl, _, hx, hc⟩ := HR7.out.at_ hlt
              obtain ⟨rfl, hkl⟩ := tvals_take hx
              obtain ⟨y, hyj⟩ : ∃ y, y = ys.getD j 0 := ⟨_, rfl⟩
              rw [← hyj] at hc
              have HY := hide hyj
              clear hx hyj
              have hps := fifo_push f.B f.L (tvals (nextQ true (ys.take j) q)) 3 (.int .i64 y) wr HI7.out.q (by rw [List.length_map, len_nextQ, List.length_take]; omega)
              go_wp2_with fail
              refine hps.mono ?_
              clear hps
              rintro e w8 ⟨rfl, hq8, hc8⟩
              have hc8' : Chg (fun k => k = f.L ∨ NodeAt wr f.B k) wr w8 := hc8
              have HI8 : Hid (WI Fifo f w w8 (n :: ord) (ord ++ [n]) (tvals (nextQ true (ys.take (j + 1)) q))) := by
                refine HI7.out.queue fifo_like hc8' ?_
                rw [take_succ_getD HY.out hkl]
                have e : tvals (nextQ true (ys.take j ++ [y]) q) = tvals (nextQ true (ys.take j) q) ++ [.iface 3 (.int .i64 y)] := by simp [nextQ, tval]
                rw [e]
                exact hq8
              have HR8 := hide (HI7.out.row fifo_like hc8' HR7.out)
              clear hq8 hc8 hc8'
              go_wp2
              go_roundw
              case rel => exact ⟨j + 1, by omega, by go_num, HI8.out, HR8.out⟩
              case measure => simp [intOf]; omega
            · have hjl : j = ys.length := by omega
              subst hjl
              have HI8 : Hid (WI Fifo f w wr (ord ++ [n]) (ord ++ [n]) (tvals (nextQ true (adj f.G n) q))) := by
                have h1 := HI7.out
                rw [List.take_length, ← HYS.out] at h1
                exact ⟨h1.b, h1.m.same (fun x => by simp [or_comm]), h1.o, h1.q, h1.c, h1.g, h1.t⟩
              clear hlt
              go_wp2
              go_roundg (left f.G a (ord ++ [n]) (nextQ true (adj f.G n) q))
              case measure => exact Nat.lt_of_lt_of_le (left_go HW.out HIn.out) HK.out
              case rel => exact ⟨ord ++ [n], _, HI8.out, HW.out.go HIn.out HNT.out, Nat.le_refl _⟩
end Go.Proofs.Ytndkjjfnlpkigaa
