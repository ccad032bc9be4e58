/- The walk of Trie.HasSuffixOf, at keys of ASCII. Under sizes alone. -/
import Derived.Test.YtjekaagjgamfkaaDoorHx
namespace Go.Proofs.YtjekaagjgamfkaaDoor
open Go.RowKit T
attribute [local go_sem] S_size S_toList E_toList S_extract

set_option linter.unusedSimpArgs false in
set_option linter.unusedVariables false in
set_option maxHeartbeats 4000000 in
set_option maxRecDepth 100000 in
theorem hassuffix_any (w0 w : World) (B root M : Nat) (s : St) (R : Nat → Value) (str : T.Bs) (hbase : Base w0 B root M s R) (hbel : Below w0.heap.size w0 w) (hl : str.length ≤ 1099511627776) :
    Calls Tryd.prog 22 #[.pointer (some ⟨root, 0, none⟩), .string (S str)] w (HxOut w (!(pfx s (str.length + 1) root str.reverse).isEmpty)) := by
  obtain ⟨Z, hZ⟩ : ∃ Z, Z = !(pfx s (str.length + 1) root str.reverse).isEmpty := ⟨_, rfl⟩
  rw [← hZ]
  have hst : HxSt w0 w w B root M s R (pfx s (str.length + 1) root str.reverse) Z := ⟨hbase, hbel, Below.refl _ _, hZ⟩
  have HST := hide hst
  obtain ⟨d0, hd0, _⟩ := hbase.inv.root
  have HD0 := hide hd0
  clear hbase hbel hZ hst hd0
  go_enter Tryd.func22, Tryd.ntmps22
  go_wp2
  go_loopw [1, 5] (fun s1 s7 wr => ∃ (n : Nat) (r : T.Bs), s1 = .string (S r) ∧ s7 = .pointer (some ⟨n, 0, none⟩) ∧ r.length ≤ 1099511627776 ∧ Hid (∃ f d, r.length < f ∧ s.D n = some d ∧ HxSt w0 w wr B root M s R (pfx s f n r.reverse) Z)) (fun s1 _ _ => strLen s1)
  case atStart => exact ⟨root, str, rfl, rfl, hl, (⟨str.length + 1, d0, Nat.lt_succ_self _, HD0.out, HST.out⟩ : ∃ f d, str.length < f ∧ s.D root = some d ∧ HxSt w0 w w B root M s R (pfx s f root str.reverse) Z)⟩
  case round =>
    obtain ⟨n, r, rfl, rfl, hrl, HI⟩ := hrel
    obtain ⟨f, d, hrf, hd, hs⟩ := HI.out
    obtain ⟨f, rfl⟩ : ∃ f', f = f' + 1 := ⟨f - 1, by omega⟩
    obtain ⟨A, c, c0, c1, hn, hrd, hfew⟩ := hs.base.view hs.bel hd
    have HS := hide hs
    have HD := hide hd
    clear hd hs hrd HI hfew
    cases hch : d.child with
    | none =>
      rw [hch, pv_none] at c1
      have ht : HxSt w0 w wr B root M s R (rst s f d r.reverse) Z := by
        have := HS.out
        rw [pfx_rst HD.out, hch] at this
        exact this
      have HT := hide ht
      have HCH := hide hch
      clear hch ht
      by_cases hr0 : r = []
      · subst hr0
        have hz := HT.out.goal
        rw [rst_end rfl] at hz
        have HZ := hide hz
        clear hz
        go_wp2
        go_ret
        exact ⟨by rw [HZ.out]; rfl, HT.out.bel2⟩
      · have hq0 : r.reverse ≠ [] := by simpa using hr0
        have hrp : 1 ≤ r.length := List.length_pos_iff.2 hr0
        obtain ⟨x, hx0, hxh⟩ := hd_at hq0
        rw [List.getElem?_reverse (by omega)] at hx0
        have hix := index_S hx0
        have ec : ((r.length - 1 - 0 : Nat) : Int) = (r.length : Int) - 1 := by omega
        rw [ec] at hix
        have h64 : IntKind.i64.wrap ((r.length : Int) - 1) = (r.length : Int) - 1 := by rw [IntKind.wrap_i64]; omega
        have hre : r.isEmpty = false := by simpa using hr0
        have hqe : r.reverse.isEmpty = false := by simpa using hr0
        have HX := hide hxh
        have HR0 := hide hr0
        have HRE := hide hqe
        clear hx0 hxh hr0 hq0 hqe ec
        have hfind := find_any B root n s R d x wr (HT.out.base.mem.later HT.out.bel) HT.out.base.inv HD.out
        have HF := hide hfind
        clear hfind
        go_wp2_with fail
        refine HF.out.mono ?_
        clear HF
        rintro e w3 ⟨i, rfl, hpos, hb3⟩
        have hbel3 := HT.out.bel.trans (hb3.mono HT.out.bel.size)
        obtain ⟨A3, c3, c30, c31, hn3, hrd3, hfew⟩ := HT.out.base.view hbel3 HD.out
        have HP := hide hpos
        have HB3 := hide hb3
        have HBEL := hide hbel3
        have HRD3 := hide hrd3
        clear hpos hb3 hbel3 hrd3 hfew
        cases hfd : found d.es x.toNat i with
        | false =>
          have hno : fnd d.es (T.hd r.reverse) = none := fnd_no (HP.out.no (HX.out ▸ rfl) (HT.out.base.inv.sort n d HD.out) hfd)
          have hz := HT.out.goal
          rw [rst_no hno] at hz
          have HZ := hide hz
          clear hz hfd hno
          go_wp2
          go_ret
          exact ⟨by rw [HZ.out]; rfl, HT.out.bel2.trans (HB3.out.mono HT.out.bel2.size)⟩
        | true =>
          obtain ⟨e, he, heh⟩ := found_at hfd
          have hfn : fnd d.es (T.hd r.reverse) = some e := fnd_at (HT.out.base.inv.sort n d HD.out) he (heh.trans HX.out.symm)
          obtain ⟨lab, tg⟩ := e
          obtain ⟨g, rfl, hg, k0, k1, k2⟩ := HRD3.out.at_ he
          have hil := (List.getElem?_eq_some_iff.1 he).1
          have hel := HT.out.base.inv.lab n d _ HD.out (List.mem_of_getElem? he)
          have H22 := hide hfn
          have HEL := hide hel
          have HE := hide he
          clear hfd heh hfn hel he
          cases tg with
          | leaf k9 =>
            simp only [pv_some, pv_none, Tg.nodeP, Tg.leafP] at k1 k2
            by_cases hlt : r.length < lab.length
            · have hd1 : decide (r.length < lab.length) = true := decide_eq_true hlt
              have hz := HT.out.goal
              rw [rst_off H22.out (pre_long (by rw [List.length_reverse]; exact hlt))] at hz
              have HZ := hide hz
              clear hz hlt
              go_wp2
              go_quiet (fail)
              go_wp2
              go_ret
              exact ⟨by rw [HZ.out]; rfl, below_alloc_w HT.out.bel2 HB3.out _ _⟩
            · have hd1 : decide (r.length < lab.length) = false := decide_eq_false hlt
              have hle : lab.length ≤ r.length := by omega
              by_cases hpre : r.reverse.take lab.length = lab
              · have htr : (lab == (r.drop (r.length - lab.length)).reverse) = true := by
                  rw [tail_rev, hpre]; simp
                have HPRE := hide hpre
                have hz := HT.out.goal
                rw [rst_leaf HRE.out H22.out (pre_yes HPRE.out)] at hz
                have HZ := hide hz
                clear hpre hz
                have hle2 : 0 ≤ (r.length : Int) - (lab.length : Int) := by omega
                have hle4 : (lab.length : Int) ≤ (r.length : Int) := by omega
                have hle3 : (r.length : Int) - (lab.length : Int) ≤ (r.length : Int) := by omega
                have h66 : IntKind.i64.wrap ((r.length : Int) - (lab.length : Int)) = (r.length : Int) - (lab.length : Int) := by rw [IntKind.wrap_i64]; omega
                have h67 : ((r.length : Int) - (lab.length : Int)).toNat = r.length - lab.length := by omega
                have her : ∀ W, Calls Tryd.prog 28 #[.string (S (r.drop (r.length - lab.length))), .string (S lab)] W (ErOut (r.drop (r.length - lab.length)) lab W) := fun W => eqrev_any _ lab W (by rw [List.length_drop]; omega) (HT.out.base.asc HD.out (List.mem_of_getElem? HE.out)) (by omega)
                have HER := hide her
                clear her
                have HBA := hide (HBEL.out.alloc HBEL.out.size (.cells #[.string (S lab), .pointer none, .pointer (some ⟨k9, 0, none⟩)] 64))
                have HBB := hide ((HT.out.bel2.trans (HB3.out.mono HT.out.bel2.size)).alloc (Nat.le_trans HT.out.bel2.size HB3.out.size) (.cells #[.string (S lab), .pointer none, .pointer (some ⟨k9, 0, none⟩)] 64))
                have HXA := hide (Blk.new w3 64 #[.string (S lab), .pointer none, .pointer (some ⟨k9, 0, none⟩)])
                have HTR := hide htr
                clear htr
                go_wp2
                go_region_held3 (fun w' => w'.cell? ⟨w3.heap.size, 0, none⟩ = some (.string (S lab))) (first | with_reducible exact x0 | go_keep)
                  ((first
                    | (go_at_call 28; refine (HER.out _).mono ?_; rintro _ w5 ⟨rfl, hb5⟩; rw [HTR.out]
                       have hx5 := HXA.out.drew.below hb5 HXA.out.lt
                       have x0 : w5.cell? ⟨w3.heap.size, 0, none⟩ = some (.string (S lab)) := by rw [hx5.cell]; rfl
                       have x1 : w5.cell? ⟨w3.heap.size, 1, none⟩ = some (.pointer none) := by rw [hx5.cell]; rfl
                       have x2 : w5.cell? ⟨w3.heap.size, 2, none⟩ = some (.pointer (some ⟨k9, 0, none⟩)) := by rw [hx5.cell]; rfl)
                    | fail))
                have HB5 := hide (((Chg.ofBelow HBA.out (fun _ => False)).drew.toBelow).trans (hb5.mono HBA.out.size))
                have HV5 := hide (((Chg.ofBelow HBB.out (fun _ => False)).drew.toBelow).trans (hb5.mono HBB.out.size))
                clear hb5 hx5
                go_wp2
                go_ret
                exact ⟨by rw [HZ.out]; rfl, HV5.out⟩
              · have htr : (lab == (r.drop (r.length - lab.length)).reverse) = false := by
                  rw [tail_rev, beq_eq_false_iff_ne]
                  exact fun e => hpre e.symm
                have hz := HT.out.goal
                rw [rst_off H22.out (pre_not hpre)] at hz
                have HZ := hide hz
                clear hz hpre
                have hle2 : 0 ≤ (r.length : Int) - (lab.length : Int) := by omega
                have hle4 : (lab.length : Int) ≤ (r.length : Int) := by omega
                have hle3 : (r.length : Int) - (lab.length : Int) ≤ (r.length : Int) := by omega
                have h66 : IntKind.i64.wrap ((r.length : Int) - (lab.length : Int)) = (r.length : Int) - (lab.length : Int) := by rw [IntKind.wrap_i64]; omega
                have h67 : ((r.length : Int) - (lab.length : Int)).toNat = r.length - lab.length := by omega
                have her : ∀ W, Calls Tryd.prog 28 #[.string (S (r.drop (r.length - lab.length))), .string (S lab)] W (ErOut (r.drop (r.length - lab.length)) lab W) := fun W => eqrev_any _ lab W (by rw [List.length_drop]; omega) (HT.out.base.asc HD.out (List.mem_of_getElem? HE.out)) (by omega)
                have HER := hide her
                clear her
                have HBA := hide (HBEL.out.alloc HBEL.out.size (.cells #[.string (S lab), .pointer none, .pointer (some ⟨k9, 0, none⟩)] 64))
                have HBB := hide ((HT.out.bel2.trans (HB3.out.mono HT.out.bel2.size)).alloc (Nat.le_trans HT.out.bel2.size HB3.out.size) (.cells #[.string (S lab), .pointer none, .pointer (some ⟨k9, 0, none⟩)] 64))
                have HXA := hide (Blk.new w3 64 #[.string (S lab), .pointer none, .pointer (some ⟨k9, 0, none⟩)])
                have HTR := hide htr
                clear htr
                go_wp2
                go_region_held3 (fun w' => w'.cell? ⟨w3.heap.size, 0, none⟩ = some (.string (S lab))) (first | with_reducible exact x0 | go_keep)
                  ((first
                    | (go_at_call 28; refine (HER.out _).mono ?_; rintro _ w5 ⟨rfl, hb5⟩; rw [HTR.out]
                       have hx5 := HXA.out.drew.below hb5 HXA.out.lt
                       have x0 : w5.cell? ⟨w3.heap.size, 0, none⟩ = some (.string (S lab)) := by rw [hx5.cell]; rfl
                       have x1 : w5.cell? ⟨w3.heap.size, 1, none⟩ = some (.pointer none) := by rw [hx5.cell]; rfl
                       have x2 : w5.cell? ⟨w3.heap.size, 2, none⟩ = some (.pointer (some ⟨k9, 0, none⟩)) := by rw [hx5.cell]; rfl)
                    | fail))
                have HB5 := hide (((Chg.ofBelow HBA.out (fun _ => False)).drew.toBelow).trans (hb5.mono HBA.out.size))
                have HV5 := hide (((Chg.ofBelow HBB.out (fun _ => False)).drew.toBelow).trans (hb5.mono HBB.out.size))
                clear hb5 hx5
                go_wp2
                go_ret
                exact ⟨by rw [HZ.out]; rfl, HV5.out⟩
          | node b' =>
            simp only [pv_some, pv_none, Tg.nodeP, Tg.leafP] at k1 k2
            by_cases hlt : r.length < lab.length
            · have hd1 : decide (r.length < lab.length) = true := decide_eq_true hlt
              have hz := HT.out.goal
              rw [rst_off H22.out (pre_long (by rw [List.length_reverse]; exact hlt))] at hz
              have HZ := hide hz
              clear hz hlt
              go_wp2
              go_quiet (fail)
              go_wp2
              go_ret
              exact ⟨by rw [HZ.out]; rfl, below_alloc_w HT.out.bel2 HB3.out _ _⟩
            · have hd1 : decide (r.length < lab.length) = false := decide_eq_false hlt
              have hle : lab.length ≤ r.length := by omega
              by_cases hpre : r.reverse.take lab.length = lab
              · have htr : (lab == (r.drop (r.length - lab.length)).reverse) = true := by
                  rw [tail_rev, hpre]; simp
                have HPRE := hide hpre
                have hz := HT.out.goal
                rw [rst_node HRE.out H22.out (pre_yes HPRE.out), rev_take] at hz
                obtain ⟨d2, hd2a, hd2b⟩ := HT.out.base.inv.tgN n d _ b' HD.out (List.mem_of_getElem? HE.out) rfl
                have hlp : 0 < lab.length := List.length_pos_iff.2 HEL.out
                have hrm : (r.take (r.length - lab.length)).length < r.length := by rw [List.length_take]; omega
                have hrf2 : (r.take (r.length - lab.length)).length < f := by omega
                have hrl2 : (r.take (r.length - lab.length)).length ≤ 1099511627776 := by omega
                have HZ := hide hz
                have HD2 := hide hd2a
                have HRM := hide hrm
                have HRF := hide hrf2
                have HRL := hide hrl2
                clear hpre hz hd2a hd2b hlp hrm hrf2 hrl2
                have hle2 : 0 ≤ (r.length : Int) - (lab.length : Int) := by omega
                have hle4 : (lab.length : Int) ≤ (r.length : Int) := by omega
                have hle3 : (r.length : Int) - (lab.length : Int) ≤ (r.length : Int) := by omega
                have h66 : IntKind.i64.wrap ((r.length : Int) - (lab.length : Int)) = (r.length : Int) - (lab.length : Int) := by rw [IntKind.wrap_i64]; omega
                have h67 : ((r.length : Int) - (lab.length : Int)).toNat = r.length - lab.length := by omega
                have her : ∀ W, Calls Tryd.prog 28 #[.string (S (r.drop (r.length - lab.length))), .string (S lab)] W (ErOut (r.drop (r.length - lab.length)) lab W) := fun W => eqrev_any _ lab W (by rw [List.length_drop]; omega) (HT.out.base.asc HD.out (List.mem_of_getElem? HE.out)) (by omega)
                have HER := hide her
                clear her
                have HBA := hide (HBEL.out.alloc HBEL.out.size (.cells #[.string (S lab), .pointer (some ⟨b', 0, none⟩), .pointer none] 64))
                have HBB := hide ((HT.out.bel2.trans (HB3.out.mono HT.out.bel2.size)).alloc (Nat.le_trans HT.out.bel2.size HB3.out.size) (.cells #[.string (S lab), .pointer (some ⟨b', 0, none⟩), .pointer none] 64))
                have HXA := hide (Blk.new w3 64 #[.string (S lab), .pointer (some ⟨b', 0, none⟩), .pointer none])
                have HTR := hide htr
                clear htr
                go_wp2
                go_region_held3 (fun w' => w'.cell? ⟨w3.heap.size, 0, none⟩ = some (.string (S lab))) (first | with_reducible exact x0 | go_keep)
                  ((first
                    | (go_at_call 28; refine (HER.out _).mono ?_; rintro _ w5 ⟨rfl, hb5⟩; rw [HTR.out]
                       have hx5 := HXA.out.drew.below hb5 HXA.out.lt
                       have x0 : w5.cell? ⟨w3.heap.size, 0, none⟩ = some (.string (S lab)) := by rw [hx5.cell]; rfl
                       have x1 : w5.cell? ⟨w3.heap.size, 1, none⟩ = some (.pointer (some ⟨b', 0, none⟩)) := by rw [hx5.cell]; rfl
                       have x2 : w5.cell? ⟨w3.heap.size, 2, none⟩ = some (.pointer none) := by rw [hx5.cell]; rfl)
                    | fail))
                have HB5 := hide (((Chg.ofBelow HBA.out (fun _ => False)).drew.toBelow).trans (hb5.mono HBA.out.size))
                have HV5 := hide (((Chg.ofBelow HBB.out (fun _ => False)).drew.toBelow).trans (hb5.mono HBB.out.size))
                clear hb5 hx5
                go_wp2
                go_roundw
                case measure => rw [strLen_S, strLen_S]; exact HRM.out
                case rel =>
                  refine ⟨b', _, rfl, rfl, HRL.out, ?_⟩
                  exact (⟨f, d2, HRF.out, HD2.out, HT.out.base, HB5.out, HV5.out, HZ.out⟩ : ∃ f d, (r.take (r.length - lab.length)).length < f ∧ s.D b' = some d ∧ HxSt w0 w _ B root M s R (pfx s f b' (r.take (r.length - lab.length)).reverse) Z)
              · have htr : (lab == (r.drop (r.length - lab.length)).reverse) = false := by
                  rw [tail_rev, beq_eq_false_iff_ne]
                  exact fun e => hpre e.symm
                have hz := HT.out.goal
                rw [rst_off H22.out (pre_not hpre)] at hz
                have HZ := hide hz
                clear hz hpre
                have hle2 : 0 ≤ (r.length : Int) - (lab.length : Int) := by omega
                have hle4 : (lab.length : Int) ≤ (r.length : Int) := by omega
                have hle3 : (r.length : Int) - (lab.length : Int) ≤ (r.length : Int) := by omega
                have h66 : IntKind.i64.wrap ((r.length : Int) - (lab.length : Int)) = (r.length : Int) - (lab.length : Int) := by rw [IntKind.wrap_i64]; omega
                have h67 : ((r.length : Int) - (lab.length : Int)).toNat = r.length - lab.length := by omega
                have her : ∀ W, Calls Tryd.prog 28 #[.string (S (r.drop (r.length - lab.length))), .string (S lab)] W (ErOut (r.drop (r.length - lab.length)) lab W) := fun W => eqrev_any _ lab W (by rw [List.length_drop]; omega) (HT.out.base.asc HD.out (List.mem_of_getElem? HE.out)) (by omega)
                have HER := hide her
                clear her
                have HBA := hide (HBEL.out.alloc HBEL.out.size (.cells #[.string (S lab), .pointer (some ⟨b', 0, none⟩), .pointer none] 64))
                have HBB := hide ((HT.out.bel2.trans (HB3.out.mono HT.out.bel2.size)).alloc (Nat.le_trans HT.out.bel2.size HB3.out.size) (.cells #[.string (S lab), .pointer (some ⟨b', 0, none⟩), .pointer none] 64))
                have HXA := hide (Blk.new w3 64 #[.string (S lab), .pointer (some ⟨b', 0, none⟩), .pointer none])
                have HTR := hide htr
                clear htr
                go_wp2
                go_region_held3 (fun w' => w'.cell? ⟨w3.heap.size, 0, none⟩ = some (.string (S lab))) (first | with_reducible exact x0 | go_keep)
                  ((first
                    | (go_at_call 28; refine (HER.out _).mono ?_; rintro _ w5 ⟨rfl, hb5⟩; rw [HTR.out]
                       have hx5 := HXA.out.drew.below hb5 HXA.out.lt
                       have x0 : w5.cell? ⟨w3.heap.size, 0, none⟩ = some (.string (S lab)) := by rw [hx5.cell]; rfl
                       have x1 : w5.cell? ⟨w3.heap.size, 1, none⟩ = some (.pointer (some ⟨b', 0, none⟩)) := by rw [hx5.cell]; rfl
                       have x2 : w5.cell? ⟨w3.heap.size, 2, none⟩ = some (.pointer none) := by rw [hx5.cell]; rfl)
                    | fail))
                have HB5 := hide (((Chg.ofBelow HBA.out (fun _ => False)).drew.toBelow).trans (hb5.mono HBA.out.size))
                have HV5 := hide (((Chg.ofBelow HBB.out (fun _ => False)).drew.toBelow).trans (hb5.mono HBB.out.size))
                clear hb5 hx5
                go_wp2
                go_ret
                exact ⟨by rw [HZ.out]; rfl, HV5.out⟩
    | some k =>
      rw [hch, pv_some] at c1
      have hz := HS.out.goal
      rw [pfx_rst HD.out, hch, Option.toList_some, List.singleton_append] at hz
      have HZ := hide hz
      clear hch hz
      go_wp2
      go_ret
      exact ⟨by rw [HZ.out]; rfl, HS.out.bel2⟩
end Go.Proofs.YtjekaagjgamfkaaDoor
