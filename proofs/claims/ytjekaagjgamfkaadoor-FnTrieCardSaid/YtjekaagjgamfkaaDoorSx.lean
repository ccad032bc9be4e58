/- The walk of Trie.SuffixesOf, at keys of ASCII. Under sizes alone. -/
import Derived.Test.YtjekaagjgamfkaaDoorPx
import Derived.Test.YtjekaagjgamfkaaDoorEr
import Derived.Deep.RegionHeld3
namespace Go.Proofs.YtjekaagjgamfkaaDoor
open Go.RowKit T
attribute [local go_sem] S_size S_toList E_toList S_extract

theorem Base.asc {w0 : World} {B root M n : Nat} {s : St} {R : Nat → Value} {d : Nd} {e : Ed} (h : Base w0 B root M s R) (hd : s.D n = some d) (he : e ∈ d.es) : ∀ c ∈ e.lab, c.toNat < 128 :=
  fun c hc => (h.bnd.lab h.inv hd he).2 c (List.mem_append_right _ hc)
theorem tail_rev (r : T.Bs) (k : Nat) : (r.drop (r.length - k)).reverse = r.reverse.take k := by
  rw [List.take_reverse]
theorem rev_take (r : T.Bs) (k : Nat) : r.reverse.drop k = (r.take (r.length - k)).reverse := by
  rw [List.drop_reverse]

set_option linter.unusedSimpArgs false in
set_option linter.unusedVariables false in
set_option maxHeartbeats 4000000 in
set_option maxRecDepth 100000 in
theorem suffixes_any (w0 ws w : World) (B root M fb off lb mb : Nat) (s : St) (R : Nat → Value) (most : Int) (et ep : Value) (er : Value) (cs : Array Value) (xs : List Int) (v : Value) (str : T.Bs)
    (hbase : Base w0 B root M s R) (hbel : Below w0.heap.size w0 w) (hvis : VisSt w ws w0.heap.size fb off lb mb most er cs xs v) (her : ∃ et ep, er = .iface et ep) (hl : str.length ≤ 1099511627776) (hlen : xs.length + (pfx s (str.length + 1) root str.reverse).length ≤ 2147483647) :
    Calls Tryd.prog 19 #[.pointer (some ⟨root, 0, none⟩), .string (S str), .func (.func 17) #[] #[.pointer (some ⟨lb, 0, none⟩), .pointer (some ⟨mb, 0, none⟩)]] w (PxOut w0 ws fb off lb mb most er cs (vist most xs ((pfx s (str.length + 1) root str.reverse).map (val s))).1) := by
  obtain ⟨Z, hZ⟩ : ∃ Z, Z = vist most xs ((pfx s (str.length + 1) root str.reverse).map (val s)) := ⟨_, rfl⟩
  rw [← hZ]
  have hst : PxSt w0 ws w B root M fb off lb mb s R most er cs xs (pfx s (str.length + 1) root str.reverse) Z v := ⟨hbase, hbel, hvis, hZ, hlen⟩
  have HST := hide hst
  obtain ⟨d0, hd0, _⟩ := hbase.inv.root
  have HD0 := hide hd0
  clear hbase hbel hvis hZ hlen hst hd0
  obtain ⟨et, ep, rfl⟩ := her
  go_enter Tryd.func19, Tryd.ntmps19
  go_wp2
  go_loopw [1, 7] (fun s1 s7 wr => ∃ (n : Nat) (r : T.Bs), s1 = .string (S r) ∧ s7 = .pointer (some ⟨n, 0, none⟩) ∧ r.length ≤ 1099511627776 ∧ Hid (∃ f ys u d, r.length < f ∧ s.D n = some d ∧ PxSt w0 ws wr B root M fb off lb mb s R most (.iface et ep) cs ys (pfx s f n r.reverse) Z u)) (fun s1 _ _ => strLen s1)
  case atStart => exact ⟨root, str, rfl, rfl, hl, (⟨str.length + 1, xs, v, d0, Nat.lt_succ_self _, HD0.out, HST.out⟩ : ∃ f ys u d, str.length < f ∧ s.D root = some d ∧ PxSt w0 ws w B root M fb off lb mb s R most (.iface et ep) cs ys (pfx s f root str.reverse) Z u)⟩
  case round =>
    obtain ⟨n, r, rfl, rfl, hrl, HI⟩ := hrel
    obtain ⟨f, ys, u, d, hrf, hd, hs⟩ := HI.out
    obtain ⟨f, rfl⟩ : ∃ f', f = f' + 1 := ⟨f - 1, by omega⟩
    obtain ⟨A, c, c0, c1, hn, hrd, hfew⟩ := hs.base.view hs.bel hd
    have HS := hide hs
    have HD := hide hd
    have HRD := hide hrd
    clear hd hs hrd HI hfew
    -- the part behind the node's own value
    cases hch : d.child with
    | none =>
      rw [hch, pv_none] at c1
      have ht : PxSt w0 ws wr B root M fb off lb mb s R most (.iface et ep) cs ys (rst s f d r.reverse) Z u := by
        have := HS.out
        rw [pfx_rst HD.out, hch] at this
        exact this
      have HT := hide ht
      have HCH := hide hch
      clear hch ht
      by_cases hr0 : r = []
      · subst hr0
        have hz := HT.out.goal
        rw [rst_end rfl] at hz
        have HZ := hide hz
        clear hz
        go_wp2
        go_ret
        exact ⟨_, _, rfl, by rw [HZ.out]; exact HT.out.vis, HT.out.bel⟩
      · have hq0 : r.reverse ≠ [] := by simpa using hr0
        have hrp : 1 ≤ r.length := List.length_pos_iff.2 hr0
        obtain ⟨x, hx0, hxh⟩ := hd_at hq0
        rw [List.getElem?_reverse (by omega)] at hx0
        have hix := index_S hx0
        have ec : ((r.length - 1 - 0 : Nat) : Int) = (r.length : Int) - 1 := by omega
        rw [ec] at hix
        have h64 : IntKind.i64.wrap ((r.length : Int) - 1) = (r.length : Int) - 1 := by rw [IntKind.wrap_i64]; omega
        have hre : r.isEmpty = false := by simpa using hr0
        have hqe : r.reverse.isEmpty = false := by simpa using hr0
        have HX := hide hxh
        have HR0 := hide hr0
        have HRE := hide hqe
        clear hx0 hxh hr0 hq0 hqe ec
        have hfind := find_any B root n s R d x wr (HT.out.base.mem.later HT.out.bel) HT.out.base.inv HD.out
        have HF := hide hfind
        clear hfind
        go_wp2_with fail
        refine HF.out.mono ?_
        clear HF
        rintro e w3 ⟨i, rfl, hpos, hb3⟩
        have hbel3 := HT.out.bel.trans (hb3.mono HT.out.bel.size)
        obtain ⟨A3, c3, c30, c31, hn3, hrd3, hfew⟩ := HT.out.base.view hbel3 HD.out
        have HP := hide hpos
        have HB3 := hide hb3
        have HBEL := hide hbel3
        have HRD3 := hide hrd3
        clear hpos hb3 hbel3 hrd3 hfew
        cases hfd : found d.es x.toNat i with
        | false =>
          have hno : fnd d.es (T.hd r.reverse) = none := fnd_no (HP.out.no (HX.out ▸ rfl) (HT.out.base.inv.sort n d HD.out) hfd)
          have hz := HT.out.goal
          rw [rst_no hno] at hz
          have HZ := hide hz
          clear hz hfd hno
          go_wp2
          go_ret
          exact ⟨_, _, rfl, by rw [HZ.out]; exact HT.out.vis.below HB3.out, HBEL.out⟩
        | true =>
          obtain ⟨e, he, heh⟩ := found_at hfd
          have hfn : fnd d.es (T.hd r.reverse) = some e := fnd_at (HT.out.base.inv.sort n d HD.out) he (heh.trans HX.out.symm)
          obtain ⟨lab, tg⟩ := e
          obtain ⟨g, rfl, hg, k0, k1, k2⟩ := HRD3.out.at_ he
          have hil := (List.getElem?_eq_some_iff.1 he).1
          have hel := HT.out.base.inv.lab n d _ HD.out (List.mem_of_getElem? he)
          have HFN := hide hfn
          have HEL := hide hel
          have HE := hide he
          clear hfd heh hfn hel he
          cases tg with
          | leaf k9 =>
            simp only [pv_some, pv_none, Tg.nodeP, Tg.leafP] at k1 k2
            by_cases hlt : r.length < lab.length
            · have hd1 : decide (r.length < lab.length) = true := decide_eq_true hlt
              have hz := HT.out.goal
              rw [rst_off HFN.out (pre_long (by rw [List.length_reverse]; exact hlt))] at hz
              have HZ := hide hz
              clear hz hlt
              go_wp2
              go_quiet (fail)
              go_wp2
              go_ret
              exact ⟨_, _, rfl, by rw [HZ.out]; exact (HT.out.vis.below HB3.out).alloc _ _, below_alloc_q HBEL.out (HBEL.out.size) _ _⟩
            · have hd1 : decide (r.length < lab.length) = false := decide_eq_false hlt
              have hle : lab.length ≤ r.length := by omega
              by_cases hpre : r.reverse.take lab.length = lab
              · have htr : (lab == (r.drop (r.length - lab.length)).reverse) = true := by
                  rw [tail_rev, hpre]; simp
                have HPRE := hide hpre
                have hz := HT.out.goal
                have hzl := HT.out.len
                rw [rst_leaf HRE.out HFN.out (pre_yes HPRE.out)] at hz hzl
                obtain ⟨m9, hv9⟩ := HT.out.base.inv.tgL n d _ k9 HD.out (List.mem_of_getElem? HE.out) rfl
                have hk9 := fun W hW => HT.out.base.leaf (w := W) hW hv9
                have hyl : ys.length ≤ 2147483647 := by omega
                have HZ := hide hz
                have HK9 := hide hk9
                clear hpre hz hzl hv9 hk9
                have hle2 : 0 ≤ (r.length : Int) - (lab.length : Int) := by omega
                have hle4 : (lab.length : Int) ≤ (r.length : Int) := by omega
                have hle3 : (r.length : Int) - (lab.length : Int) ≤ (r.length : Int) := by omega
                have h66 : IntKind.i64.wrap ((r.length : Int) - (lab.length : Int)) = (r.length : Int) - (lab.length : Int) := by rw [IntKind.wrap_i64]; omega
                have h67 : ((r.length : Int) - (lab.length : Int)).toNat = r.length - lab.length := by omega
                have her : ∀ W, Calls Tryd.prog 28 #[.string (S (r.drop (r.length - lab.length))), .string (S lab)] W (ErOut (r.drop (r.length - lab.length)) lab W) := fun W => eqrev_any _ lab W (by rw [List.length_drop]; omega) (HT.out.base.asc HD.out (List.mem_of_getElem? HE.out)) (by omega)
                have HER := hide her
                clear her
                have HBA := hide (HBEL.out.alloc HBEL.out.size (.cells #[.string (S lab), .pointer none, .pointer (some ⟨k9, 0, none⟩)] 64))
                have HVA := hide ((HT.out.vis.below HB3.out).alloc (.cells #[.string (S lab), .pointer none, .pointer (some ⟨k9, 0, none⟩)] 64) 1)
                have HXA := hide (Blk.new w3 64 #[.string (S lab), .pointer none, .pointer (some ⟨k9, 0, none⟩)])
                have HTR := hide htr
                clear htr
                go_wp2
                go_region_held3 (fun w' => w'.cell? ⟨w3.heap.size, 0, none⟩ = some (.string (S lab))) (first | with_reducible exact x0 | go_keep)
                  ((first
                    | (go_at_call 28; refine (HER.out _).mono ?_; rintro _ w5 ⟨rfl, hb5⟩; rw [HTR.out]
                       have hx5 := HXA.out.drew.below hb5 HXA.out.lt
                       have x0 : w5.cell? ⟨w3.heap.size, 0, none⟩ = some (.string (S lab)) := by rw [hx5.cell]; rfl
                       have x1 : w5.cell? ⟨w3.heap.size, 1, none⟩ = some (.pointer none) := by rw [hx5.cell]; rfl
                       have x2 : w5.cell? ⟨w3.heap.size, 2, none⟩ = some (.pointer (some ⟨k9, 0, none⟩)) := by rw [hx5.cell]; rfl)
                    | fail))
                have HB5 := hide (((Chg.ofBelow HBA.out (fun _ => False)).drew.toBelow).trans (hb5.mono HBA.out.size))
                have HV5 := hide (HVA.out.below hb5)
                clear hb5 hx5
                go_wp2_with fail
                refine (visit_any w0.heap.size fb off lb mb k9 most (val s k9) _ ys cs u _ HV5.out (HK9.out _ HB5.out) hyl).mono ?_
                rintro _ w4 ⟨v4, rfl, hv4, hb4⟩
                have HV4 := hide hv4
                have HB4 := hide (HB5.out.trans hb4)
                clear hv4 hb4
                go_wp2
                all_goals
                  go_ret
                  refine ⟨v4, _, rfl, ?_, HB4.out⟩
                  rw [HZ.out]
                  simp only [List.map_cons, List.map_nil, vist_one]
                  exact HV4.out
              · have htr : (lab == (r.drop (r.length - lab.length)).reverse) = false := by
                  rw [tail_rev, beq_eq_false_iff_ne]
                  exact fun e => hpre e.symm
                have hz := HT.out.goal
                rw [rst_off HFN.out (pre_not hpre)] at hz
                have HZ := hide hz
                clear hz hpre
                have hle2 : 0 ≤ (r.length : Int) - (lab.length : Int) := by omega
                have hle4 : (lab.length : Int) ≤ (r.length : Int) := by omega
                have hle3 : (r.length : Int) - (lab.length : Int) ≤ (r.length : Int) := by omega
                have h66 : IntKind.i64.wrap ((r.length : Int) - (lab.length : Int)) = (r.length : Int) - (lab.length : Int) := by rw [IntKind.wrap_i64]; omega
                have h67 : ((r.length : Int) - (lab.length : Int)).toNat = r.length - lab.length := by omega
                have her : ∀ W, Calls Tryd.prog 28 #[.string (S (r.drop (r.length - lab.length))), .string (S lab)] W (ErOut (r.drop (r.length - lab.length)) lab W) := fun W => eqrev_any _ lab W (by rw [List.length_drop]; omega) (HT.out.base.asc HD.out (List.mem_of_getElem? HE.out)) (by omega)
                have HER := hide her
                clear her
                have HBA := hide (HBEL.out.alloc HBEL.out.size (.cells #[.string (S lab), .pointer none, .pointer (some ⟨k9, 0, none⟩)] 64))
                have HVA := hide ((HT.out.vis.below HB3.out).alloc (.cells #[.string (S lab), .pointer none, .pointer (some ⟨k9, 0, none⟩)] 64) 1)
                have HXA := hide (Blk.new w3 64 #[.string (S lab), .pointer none, .pointer (some ⟨k9, 0, none⟩)])
                have HTR := hide htr
                clear htr
                go_wp2
                go_region_held3 (fun w' => w'.cell? ⟨w3.heap.size, 0, none⟩ = some (.string (S lab))) (first | with_reducible exact x0 | go_keep)
                  ((first
                    | (go_at_call 28; refine (HER.out _).mono ?_; rintro _ w5 ⟨rfl, hb5⟩; rw [HTR.out]
                       have hx5 := HXA.out.drew.below hb5 HXA.out.lt
                       have x0 : w5.cell? ⟨w3.heap.size, 0, none⟩ = some (.string (S lab)) := by rw [hx5.cell]; rfl
                       have x1 : w5.cell? ⟨w3.heap.size, 1, none⟩ = some (.pointer none) := by rw [hx5.cell]; rfl
                       have x2 : w5.cell? ⟨w3.heap.size, 2, none⟩ = some (.pointer (some ⟨k9, 0, none⟩)) := by rw [hx5.cell]; rfl)
                    | fail))
                have HB5 := hide (((Chg.ofBelow HBA.out (fun _ => False)).drew.toBelow).trans (hb5.mono HBA.out.size))
                have HV5 := hide (HVA.out.below hb5)
                clear hb5 hx5
                go_wp2
                go_ret
                exact ⟨_, _, rfl, by rw [HZ.out]; exact HV5.out, HB5.out⟩
          | node b' =>
            simp only [pv_some, pv_none, Tg.nodeP, Tg.leafP] at k1 k2
            by_cases hlt : r.length < lab.length
            · have hd1 : decide (r.length < lab.length) = true := decide_eq_true hlt
              have hz := HT.out.goal
              rw [rst_off HFN.out (pre_long (by rw [List.length_reverse]; exact hlt))] at hz
              have HZ := hide hz
              clear hz hlt
              go_wp2
              go_quiet (fail)
              go_wp2
              go_ret
              exact ⟨_, _, rfl, by rw [HZ.out]; exact (HT.out.vis.below HB3.out).alloc _ _, below_alloc_q HBEL.out (HBEL.out.size) _ _⟩
            · have hd1 : decide (r.length < lab.length) = false := decide_eq_false hlt
              have hle : lab.length ≤ r.length := by omega
              by_cases hpre : r.reverse.take lab.length = lab
              · have htr : (lab == (r.drop (r.length - lab.length)).reverse) = true := by
                  rw [tail_rev, hpre]; simp
                have HPRE := hide hpre
                have hz := HT.out.goal
                have hzl := HT.out.len
                rw [rst_node HRE.out HFN.out (pre_yes HPRE.out)] at hz hzl
                obtain ⟨d2, hd2a, hd2b⟩ := HT.out.base.inv.tgN n d _ b' HD.out (List.mem_of_getElem? HE.out) rfl
                have hlp : 0 < lab.length := List.length_pos_iff.2 HEL.out
                have hrm : (r.take (r.length - lab.length)).length < r.length := by rw [List.length_take]; omega
                have hrf2 : (r.take (r.length - lab.length)).length < f := by omega
                have hrl2 : (r.take (r.length - lab.length)).length ≤ 1099511627776 := by omega
                rw [rev_take] at hz hzl
                have HZ := hide hz
                have HZL := hide hzl
                have HD2 := hide hd2a
                have HRM := hide hrm
                have HRF := hide hrf2
                have HRL := hide hrl2
                clear hpre hz hzl hd2a hd2b hlp hrm hrf2 hrl2
                have hle2 : 0 ≤ (r.length : Int) - (lab.length : Int) := by omega
                have hle4 : (lab.length : Int) ≤ (r.length : Int) := by omega
                have hle3 : (r.length : Int) - (lab.length : Int) ≤ (r.length : Int) := by omega
                have h66 : IntKind.i64.wrap ((r.length : Int) - (lab.length : Int)) = (r.length : Int) - (lab.length : Int) := by rw [IntKind.wrap_i64]; omega
                have h67 : ((r.length : Int) - (lab.length : Int)).toNat = r.length - lab.length := by omega
                have her : ∀ W, Calls Tryd.prog 28 #[.string (S (r.drop (r.length - lab.length))), .string (S lab)] W (ErOut (r.drop (r.length - lab.length)) lab W) := fun W => eqrev_any _ lab W (by rw [List.length_drop]; omega) (HT.out.base.asc HD.out (List.mem_of_getElem? HE.out)) (by omega)
                have HER := hide her
                clear her
                have HBA := hide (HBEL.out.alloc HBEL.out.size (.cells #[.string (S lab), .pointer (some ⟨b', 0, none⟩), .pointer none] 64))
                have HVA := hide ((HT.out.vis.below HB3.out).alloc (.cells #[.string (S lab), .pointer (some ⟨b', 0, none⟩), .pointer none] 64) 1)
                have HXA := hide (Blk.new w3 64 #[.string (S lab), .pointer (some ⟨b', 0, none⟩), .pointer none])
                have HTR := hide htr
                clear htr
                go_wp2
                go_region_held3 (fun w' => w'.cell? ⟨w3.heap.size, 0, none⟩ = some (.string (S lab))) (first | with_reducible exact x0 | go_keep)
                  ((first
                    | (go_at_call 28; refine (HER.out _).mono ?_; rintro _ w5 ⟨rfl, hb5⟩; rw [HTR.out]
                       have hx5 := HXA.out.drew.below hb5 HXA.out.lt
                       have x0 : w5.cell? ⟨w3.heap.size, 0, none⟩ = some (.string (S lab)) := by rw [hx5.cell]; rfl
                       have x1 : w5.cell? ⟨w3.heap.size, 1, none⟩ = some (.pointer (some ⟨b', 0, none⟩)) := by rw [hx5.cell]; rfl
                       have x2 : w5.cell? ⟨w3.heap.size, 2, none⟩ = some (.pointer none) := by rw [hx5.cell]; rfl)
                    | fail))
                have HB5 := hide (((Chg.ofBelow HBA.out (fun _ => False)).drew.toBelow).trans (hb5.mono HBA.out.size))
                have HV5 := hide (HVA.out.below hb5)
                clear hb5 hx5
                go_wp2
                go_roundw
                case measure => rw [strLen_S, strLen_S]; exact HRM.out
                case rel =>
                  refine ⟨b', _, rfl, rfl, HRL.out, ?_⟩
                  exact (⟨f, ys, u, d2, HRF.out, HD2.out, HT.out.base, HB5.out, HV5.out, HZ.out, HZL.out⟩ : ∃ f ys u d, (r.take (r.length - lab.length)).length < f ∧ s.D b' = some d ∧ PxSt w0 ws _ B root M fb off lb mb s R most (.iface et ep) cs ys (pfx s f b' (r.take (r.length - lab.length)).reverse) Z u)
              · have htr : (lab == (r.drop (r.length - lab.length)).reverse) = false := by
                  rw [tail_rev, beq_eq_false_iff_ne]
                  exact fun e => hpre e.symm
                have hz := HT.out.goal
                rw [rst_off HFN.out (pre_not hpre)] at hz
                have HZ := hide hz
                clear hz hpre
                have hle2 : 0 ≤ (r.length : Int) - (lab.length : Int) := by omega
                have hle4 : (lab.length : Int) ≤ (r.length : Int) := by omega
                have hle3 : (r.length : Int) - (lab.length : Int) ≤ (r.length : Int) := by omega
                have h66 : IntKind.i64.wrap ((r.length : Int) - (lab.length : Int)) = (r.length : Int) - (lab.length : Int) := by rw [IntKind.wrap_i64]; omega
                have h67 : ((r.length : Int) - (lab.length : Int)).toNat = r.length - lab.length := by omega
                have her : ∀ W, Calls Tryd.prog 28 #[.string (S (r.drop (r.length - lab.length))), .string (S lab)] W (ErOut (r.drop (r.length - lab.length)) lab W) := fun W => eqrev_any _ lab W (by rw [List.length_drop]; omega) (HT.out.base.asc HD.out (List.mem_of_getElem? HE.out)) (by omega)
                have HER := hide her
                clear her
                have HBA := hide (HBEL.out.alloc HBEL.out.size (.cells #[.string (S lab), .pointer (some ⟨b', 0, none⟩), .pointer none] 64))
                have HVA := hide ((HT.out.vis.below HB3.out).alloc (.cells #[.string (S lab), .pointer (some ⟨b', 0, none⟩), .pointer none] 64) 1)
                have HXA := hide (Blk.new w3 64 #[.string (S lab), .pointer (some ⟨b', 0, none⟩), .pointer none])
                have HTR := hide htr
                clear htr
                go_wp2
                go_region_held3 (fun w' => w'.cell? ⟨w3.heap.size, 0, none⟩ = some (.string (S lab))) (first | with_reducible exact x0 | go_keep)
                  ((first
                    | (go_at_call 28; refine (HER.out _).mono ?_; rintro _ w5 ⟨rfl, hb5⟩; rw [HTR.out]
                       have hx5 := HXA.out.drew.below hb5 HXA.out.lt
                       have x0 : w5.cell? ⟨w3.heap.size, 0, none⟩ = some (.string (S lab)) := by rw [hx5.cell]; rfl
                       have x1 : w5.cell? ⟨w3.heap.size, 1, none⟩ = some (.pointer (some ⟨b', 0, none⟩)) := by rw [hx5.cell]; rfl
                       have x2 : w5.cell? ⟨w3.heap.size, 2, none⟩ = some (.pointer none) := by rw [hx5.cell]; rfl)
                    | fail))
                have HB5 := hide (((Chg.ofBelow HBA.out (fun _ => False)).drew.toBelow).trans (hb5.mono HBA.out.size))
                have HV5 := hide (HVA.out.below hb5)
                clear hb5 hx5
                go_wp2
                go_ret
                exact ⟨_, _, rfl, by rw [HZ.out]; exact HV5.out, HB5.out⟩
    | some k =>
      rw [hch, pv_some] at c1
      have HCH := hide hch
      obtain ⟨m8, hv8⟩ := HS.out.base.inv.chi n d k HD.out hch
      have hk8 := HS.out.base.leaf HS.out.bel hv8
      have hlen := HS.out.len
      have hgo := HS.out.goal
      rw [pfx_rst HD.out, hch, Option.toList_some, List.singleton_append] at hlen hgo
      rw [List.length_cons] at hlen
      rw [List.map_cons] at hgo
      have hyl : ys.length ≤ 2147483647 := by omega
      have HK8 := hide hk8
      have HLEN := hide hlen
      have HGO := hide hgo
      clear hch hv8 hk8 hlen hgo
      go_wp2_with fail
      refine (visit_any w0.heap.size fb off lb mb k most (val s k) _ ys cs u _ HS.out.vis HK8.out hyl).mono ?_
      rintro _ w2 ⟨v2, rfl, hv2, hb2⟩
      have HV2 := hide hv2
      have HB2 := hide (HS.out.bel.trans hb2)
      clear hv2 hb2
      by_cases hq : (ys.length : Int) + 1 = most
      · have hz := HGO.out
        rw [vist_hit hq] at hz
        have HZ := hide hz
        rw [if_pos hq]
        clear hz hq
        go_wp2
        go_ret
        exact ⟨v2, _, rfl, by rw [HZ.out]; exact HV2.out, HB2.out⟩
      · have hz := HGO.out
        rw [vist_go hq] at hz
        rw [if_neg hq]
        have ht : PxSt w0 ws w2 B root M fb off lb mb s R most (.iface et ep) cs (ys ++ [val s k]) (rst s f d r.reverse) Z v2 := ⟨HS.out.base, HB2.out, HV2.out, hz, by have := HLEN.out; simp; omega⟩
        have HT := hide ht
        obtain ⟨A2, c2, c20, c21, hn2, hrd2, hfew2⟩ := HS.out.base.view HB2.out HD.out
        rw [HCH.out, pv_some] at c21
        clear hz hq ht c0 c1 hn hrd2 hfew2
        by_cases hr0 : r = []
        · subst hr0
          have hz := HT.out.goal
          rw [rst_end rfl] at hz
          have HZ := hide hz
          clear hz
          go_wp2
          go_ret
          exact ⟨_, _, rfl, by rw [HZ.out]; exact HT.out.vis, HT.out.bel⟩
        · have hq0 : r.reverse ≠ [] := by simpa using hr0
          have hrp : 1 ≤ r.length := List.length_pos_iff.2 hr0
          obtain ⟨x, hx0, hxh⟩ := hd_at hq0
          rw [List.getElem?_reverse (by omega)] at hx0
          have hix := index_S hx0
          have ec : ((r.length - 1 - 0 : Nat) : Int) = (r.length : Int) - 1 := by omega
          rw [ec] at hix
          have h64 : IntKind.i64.wrap ((r.length : Int) - 1) = (r.length : Int) - 1 := by rw [IntKind.wrap_i64]; omega
          have hre : r.isEmpty = false := by simpa using hr0
          have hqe : r.reverse.isEmpty = false := by simpa using hr0
          have HX := hide hxh
          have HR0 := hide hr0
          have HRE := hide hqe
          clear hx0 hxh hr0 hq0 hqe ec
          have hfind := find_any B root n s R d x w2 (HT.out.base.mem.later HT.out.bel) HT.out.base.inv HD.out
          have HF := hide hfind
          clear hfind
          go_wp2_with fail
          refine HF.out.mono ?_
          clear HF
          rintro e w3 ⟨i, rfl, hpos, hb3⟩
          have hbel3 := HT.out.bel.trans (hb3.mono HT.out.bel.size)
          obtain ⟨A3, c3, c30, c31, hn3, hrd3, hfew⟩ := HT.out.base.view hbel3 HD.out
          have HP := hide hpos
          have HB3 := hide hb3
          have HBEL := hide hbel3
          have HRD3 := hide hrd3
          clear hpos hb3 hbel3 hrd3 hfew
          cases hfd : found d.es x.toNat i with
          | false =>
            have hno : fnd d.es (T.hd r.reverse) = none := fnd_no (HP.out.no (HX.out ▸ rfl) (HT.out.base.inv.sort n d HD.out) hfd)
            have hz := HT.out.goal
            rw [rst_no hno] at hz
            have HZ := hide hz
            clear hz hfd hno
            go_wp2
            go_ret
            exact ⟨_, _, rfl, by rw [HZ.out]; exact HT.out.vis.below HB3.out, HBEL.out⟩
          | true =>
            obtain ⟨e, he, heh⟩ := found_at hfd
            have hfn : fnd d.es (T.hd r.reverse) = some e := fnd_at (HT.out.base.inv.sort n d HD.out) he (heh.trans HX.out.symm)
            obtain ⟨lab, tg⟩ := e
            obtain ⟨g, rfl, hg, k0, k1, k2⟩ := HRD3.out.at_ he
            have hil := (List.getElem?_eq_some_iff.1 he).1
            have hel := HT.out.base.inv.lab n d _ HD.out (List.mem_of_getElem? he)
            have HFN := hide hfn
            have HEL := hide hel
            have HE := hide he
            clear hfd heh hfn hel he
            cases tg with
            | leaf k9 =>
              simp only [pv_some, pv_none, Tg.nodeP, Tg.leafP] at k1 k2
              by_cases hlt : r.length < lab.length
              · have hd1 : decide (r.length < lab.length) = true := decide_eq_true hlt
                have hz := HT.out.goal
                rw [rst_off HFN.out (pre_long (by rw [List.length_reverse]; exact hlt))] at hz
                have HZ := hide hz
                clear hz hlt
                go_wp2
                go_quiet (fail)
                go_wp2
                go_ret
                exact ⟨_, _, rfl, by rw [HZ.out]; exact (HT.out.vis.below HB3.out).alloc _ _, below_alloc_q HBEL.out (HBEL.out.size) _ _⟩
              · have hd1 : decide (r.length < lab.length) = false := decide_eq_false hlt
                have hle : lab.length ≤ r.length := by omega
                by_cases hpre : r.reverse.take lab.length = lab
                · have htr : (lab == (r.drop (r.length - lab.length)).reverse) = true := by
                    rw [tail_rev, hpre]; simp
                  have HPRE := hide hpre
                  have hz := HT.out.goal
                  have hzl := HT.out.len
                  rw [rst_leaf HRE.out HFN.out (pre_yes HPRE.out)] at hz hzl
                  obtain ⟨m9, hv9⟩ := HT.out.base.inv.tgL n d _ k9 HD.out (List.mem_of_getElem? HE.out) rfl
                  have hk9 := fun W hW => HT.out.base.leaf (w := W) hW hv9
                  have hyl : (ys ++ [val s k]).length ≤ 2147483647 := by omega
                  have HZ := hide hz
                  have HK9 := hide hk9
                  clear hpre hz hzl hv9 hk9
                  have hle2 : 0 ≤ (r.length : Int) - (lab.length : Int) := by omega
                  have hle4 : (lab.length : Int) ≤ (r.length : Int) := by omega
                  have hle3 : (r.length : Int) - (lab.length : Int) ≤ (r.length : Int) := by omega
                  have h66 : IntKind.i64.wrap ((r.length : Int) - (lab.length : Int)) = (r.length : Int) - (lab.length : Int) := by rw [IntKind.wrap_i64]; omega
                  have h67 : ((r.length : Int) - (lab.length : Int)).toNat = r.length - lab.length := by omega
                  have her : ∀ W, Calls Tryd.prog 28 #[.string (S (r.drop (r.length - lab.length))), .string (S lab)] W (ErOut (r.drop (r.length - lab.length)) lab W) := fun W => eqrev_any _ lab W (by rw [List.length_drop]; omega) (HT.out.base.asc HD.out (List.mem_of_getElem? HE.out)) (by omega)
                  have HER := hide her
                  clear her
                  have HBA := hide (HBEL.out.alloc HBEL.out.size (.cells #[.string (S lab), .pointer none, .pointer (some ⟨k9, 0, none⟩)] 64))
                  have HVA := hide ((HT.out.vis.below HB3.out).alloc (.cells #[.string (S lab), .pointer none, .pointer (some ⟨k9, 0, none⟩)] 64) 1)
                  have HXA := hide (Blk.new w3 64 #[.string (S lab), .pointer none, .pointer (some ⟨k9, 0, none⟩)])
                  have HTR := hide htr
                  clear htr
                  go_wp2
                  go_region_held3 (fun w' => w'.cell? ⟨w3.heap.size, 0, none⟩ = some (.string (S lab))) (first | with_reducible exact x0 | go_keep)
                    ((first
                      | (go_at_call 28; refine (HER.out _).mono ?_; rintro _ w5 ⟨rfl, hb5⟩; rw [HTR.out]
                         have hx5 := HXA.out.drew.below hb5 HXA.out.lt
                         have x0 : w5.cell? ⟨w3.heap.size, 0, none⟩ = some (.string (S lab)) := by rw [hx5.cell]; rfl
                         have x1 : w5.cell? ⟨w3.heap.size, 1, none⟩ = some (.pointer none) := by rw [hx5.cell]; rfl
                         have x2 : w5.cell? ⟨w3.heap.size, 2, none⟩ = some (.pointer (some ⟨k9, 0, none⟩)) := by rw [hx5.cell]; rfl)
                      | fail))
                  have HB5 := hide (((Chg.ofBelow HBA.out (fun _ => False)).drew.toBelow).trans (hb5.mono HBA.out.size))
                  have HV5 := hide (HVA.out.below hb5)
                  clear hb5 hx5
                  go_wp2_with fail
                  refine (visit_any w0.heap.size fb off lb mb k9 most (val s k9) _ (ys ++ [val s k]) cs v2 _ HV5.out (HK9.out _ HB5.out) hyl).mono ?_
                  rintro _ w4 ⟨v4, rfl, hv4, hb4⟩
                  have HV4 := hide hv4
                  have HB4 := hide (HB5.out.trans hb4)
                  clear hv4 hb4
                  go_wp2
                  all_goals
                    go_ret
                    refine ⟨v4, _, rfl, ?_, HB4.out⟩
                    rw [HZ.out]
                    simp only [List.map_cons, List.map_nil, vist_one]
                    exact HV4.out
                · have htr : (lab == (r.drop (r.length - lab.length)).reverse) = false := by
                    rw [tail_rev, beq_eq_false_iff_ne]
                    exact fun e => hpre e.symm
                  have hz := HT.out.goal
                  rw [rst_off HFN.out (pre_not hpre)] at hz
                  have HZ := hide hz
                  clear hz hpre
                  have hle2 : 0 ≤ (r.length : Int) - (lab.length : Int) := by omega
                  have hle4 : (lab.length : Int) ≤ (r.length : Int) := by omega
                  have hle3 : (r.length : Int) - (lab.length : Int) ≤ (r.length : Int) := by omega
                  have h66 : IntKind.i64.wrap ((r.length : Int) - (lab.length : Int)) = (r.length : Int) - (lab.length : Int) := by rw [IntKind.wrap_i64]; omega
                  have h67 : ((r.length : Int) - (lab.length : Int)).toNat = r.length - lab.length := by omega
                  have her : ∀ W, Calls Tryd.prog 28 #[.string (S (r.drop (r.length - lab.length))), .string (S lab)] W (ErOut (r.drop (r.length - lab.length)) lab W) := fun W => eqrev_any _ lab W (by rw [List.length_drop]; omega) (HT.out.base.asc HD.out (List.mem_of_getElem? HE.out)) (by omega)
                  have HER := hide her
                  clear her
                  have HBA := hide (HBEL.out.alloc HBEL.out.size (.cells #[.string (S lab), .pointer none, .pointer (some ⟨k9, 0, none⟩)] 64))
                  have HVA := hide ((HT.out.vis.below HB3.out).alloc (.cells #[.string (S lab), .pointer none, .pointer (some ⟨k9, 0, none⟩)] 64) 1)
                  have HXA := hide (Blk.new w3 64 #[.string (S lab), .pointer none, .pointer (some ⟨k9, 0, none⟩)])
                  have HTR := hide htr
                  clear htr
                  go_wp2
                  go_region_held3 (fun w' => w'.cell? ⟨w3.heap.size, 0, none⟩ = some (.string (S lab))) (first | with_reducible exact x0 | go_keep)
                    ((first
                      | (go_at_call 28; refine (HER.out _).mono ?_; rintro _ w5 ⟨rfl, hb5⟩; rw [HTR.out]
                         have hx5 := HXA.out.drew.below hb5 HXA.out.lt
                         have x0 : w5.cell? ⟨w3.heap.size, 0, none⟩ = some (.string (S lab)) := by rw [hx5.cell]; rfl
                         have x1 : w5.cell? ⟨w3.heap.size, 1, none⟩ = some (.pointer none) := by rw [hx5.cell]; rfl
                         have x2 : w5.cell? ⟨w3.heap.size, 2, none⟩ = some (.pointer (some ⟨k9, 0, none⟩)) := by rw [hx5.cell]; rfl)
                      | fail))
                  have HB5 := hide (((Chg.ofBelow HBA.out (fun _ => False)).drew.toBelow).trans (hb5.mono HBA.out.size))
                  have HV5 := hide (HVA.out.below hb5)
                  clear hb5 hx5
                  go_wp2
                  go_ret
                  exact ⟨_, _, rfl, by rw [HZ.out]; exact HV5.out, HB5.out⟩
            | node b' =>
              simp only [pv_some, pv_none, Tg.nodeP, Tg.leafP] at k1 k2
              by_cases hlt : r.length < lab.length
              · have hd1 : decide (r.length < lab.length) = true := decide_eq_true hlt
                have hz := HT.out.goal
                rw [rst_off HFN.out (pre_long (by rw [List.length_reverse]; exact hlt))] at hz
                have HZ := hide hz
                clear hz hlt
                go_wp2
                go_quiet (fail)
                go_wp2
                go_ret
                exact ⟨_, _, rfl, by rw [HZ.out]; exact (HT.out.vis.below HB3.out).alloc _ _, below_alloc_q HBEL.out (HBEL.out.size) _ _⟩
              · have hd1 : decide (r.length < lab.length) = false := decide_eq_false hlt
                have hle : lab.length ≤ r.length := by omega
                by_cases hpre : r.reverse.take lab.length = lab
                · have htr : (lab == (r.drop (r.length - lab.length)).reverse) = true := by
                    rw [tail_rev, hpre]; simp
                  have HPRE := hide hpre
                  have hz := HT.out.goal
                  have hzl := HT.out.len
                  rw [rst_node HRE.out HFN.out (pre_yes HPRE.out)] at hz hzl
                  obtain ⟨d2, hd2a, hd2b⟩ := HT.out.base.inv.tgN n d _ b' HD.out (List.mem_of_getElem? HE.out) rfl
                  have hlp : 0 < lab.length := List.length_pos_iff.2 HEL.out
                  have hrm : (r.take (r.length - lab.length)).length < r.length := by rw [List.length_take]; omega
                  have hrf2 : (r.take (r.length - lab.length)).length < f := by omega
                  have hrl2 : (r.take (r.length - lab.length)).length ≤ 1099511627776 := by omega
                  rw [rev_take] at hz hzl
                  have HZ := hide hz
                  have HZL := hide hzl
                  have HD2 := hide hd2a
                  have HRM := hide hrm
                  have HRF := hide hrf2
                  have HRL := hide hrl2
                  clear hpre hz hzl hd2a hd2b hlp hrm hrf2 hrl2
                  have hle2 : 0 ≤ (r.length : Int) - (lab.length : Int) := by omega
                  have hle4 : (lab.length : Int) ≤ (r.length : Int) := by omega
                  have hle3 : (r.length : Int) - (lab.length : Int) ≤ (r.length : Int) := by omega
                  have h66 : IntKind.i64.wrap ((r.length : Int) - (lab.length : Int)) = (r.length : Int) - (lab.length : Int) := by rw [IntKind.wrap_i64]; omega
                  have h67 : ((r.length : Int) - (lab.length : Int)).toNat = r.length - lab.length := by omega
                  have her : ∀ W, Calls Tryd.prog 28 #[.string (S (r.drop (r.length - lab.length))), .string (S lab)] W (ErOut (r.drop (r.length - lab.length)) lab W) := fun W => eqrev_any _ lab W (by rw [List.length_drop]; omega) (HT.out.base.asc HD.out (List.mem_of_getElem? HE.out)) (by omega)
                  have HER := hide her
                  clear her
                  have HBA := hide (HBEL.out.alloc HBEL.out.size (.cells #[.string (S lab), .pointer (some ⟨b', 0, none⟩), .pointer none] 64))
                  have HVA := hide ((HT.out.vis.below HB3.out).alloc (.cells #[.string (S lab), .pointer (some ⟨b', 0, none⟩), .pointer none] 64) 1)
                  have HXA := hide (Blk.new w3 64 #[.string (S lab), .pointer (some ⟨b', 0, none⟩), .pointer none])
                  have HTR := hide htr
                  clear htr
                  go_wp2
                  go_region_held3 (fun w' => w'.cell? ⟨w3.heap.size, 0, none⟩ = some (.string (S lab))) (first | with_reducible exact x0 | go_keep)
                    ((first
                      | (go_at_call 28; refine (HER.out _).mono ?_; rintro _ w5 ⟨rfl, hb5⟩; rw [HTR.out]
                         have hx5 := HXA.out.drew.below hb5 HXA.out.lt
                         have x0 : w5.cell? ⟨w3.heap.size, 0, none⟩ = some (.string (S lab)) := by rw [hx5.cell]; rfl
                         have x1 : w5.cell? ⟨w3.heap.size, 1, none⟩ = some (.pointer (some ⟨b', 0, none⟩)) := by rw [hx5.cell]; rfl
                         have x2 : w5.cell? ⟨w3.heap.size, 2, none⟩ = some (.pointer none) := by rw [hx5.cell]; rfl)
                      | fail))
                  have HB5 := hide (((Chg.ofBelow HBA.out (fun _ => False)).drew.toBelow).trans (hb5.mono HBA.out.size))
                  have HV5 := hide (HVA.out.below hb5)
                  clear hb5 hx5
                  go_wp2
                  go_roundw
                  case measure => rw [strLen_S, strLen_S]; exact HRM.out
                  case rel =>
                    refine ⟨b', _, rfl, rfl, HRL.out, ?_⟩
                    exact (⟨f, ys ++ [val s k], v2, d2, HRF.out, HD2.out, HT.out.base, HB5.out, HV5.out, HZ.out, HZL.out⟩ : ∃ f ys u d, (r.take (r.length - lab.length)).length < f ∧ s.D b' = some d ∧ PxSt w0 ws _ B root M fb off lb mb s R most (.iface et ep) cs ys (pfx s f b' (r.take (r.length - lab.length)).reverse) Z u)
                · have htr : (lab == (r.drop (r.length - lab.length)).reverse) = false := by
                    rw [tail_rev, beq_eq_false_iff_ne]
                    exact fun e => hpre e.symm
                  have hz := HT.out.goal
                  rw [rst_off HFN.out (pre_not hpre)] at hz
                  have HZ := hide hz
                  clear hz hpre
                  have hle2 : 0 ≤ (r.length : Int) - (lab.length : Int) := by omega
                  have hle4 : (lab.length : Int) ≤ (r.length : Int) := by omega
                  have hle3 : (r.length : Int) - (lab.length : Int) ≤ (r.length : Int) := by omega
                  have h66 : IntKind.i64.wrap ((r.length : Int) - (lab.length : Int)) = (r.length : Int) - (lab.length : Int) := by rw [IntKind.wrap_i64]; omega
                  have h67 : ((r.length : Int) - (lab.length : Int)).toNat = r.length - lab.length := by omega
                  have her : ∀ W, Calls Tryd.prog 28 #[.string (S (r.drop (r.length - lab.length))), .string (S lab)] W (ErOut (r.drop (r.length - lab.length)) lab W) := fun W => eqrev_any _ lab W (by rw [List.length_drop]; omega) (HT.out.base.asc HD.out (List.mem_of_getElem? HE.out)) (by omega)
                  have HER := hide her
                  clear her
                  have HBA := hide (HBEL.out.alloc HBEL.out.size (.cells #[.string (S lab), .pointer (some ⟨b', 0, none⟩), .pointer none] 64))
                  have HVA := hide ((HT.out.vis.below HB3.out).alloc (.cells #[.string (S lab), .pointer (some ⟨b', 0, none⟩), .pointer none] 64) 1)
                  have HXA := hide (Blk.new w3 64 #[.string (S lab), .pointer (some ⟨b', 0, none⟩), .pointer none])
                  have HTR := hide htr
                  clear htr
                  go_wp2
                  go_region_held3 (fun w' => w'.cell? ⟨w3.heap.size, 0, none⟩ = some (.string (S lab))) (first | with_reducible exact x0 | go_keep)
                    ((first
                      | (go_at_call 28; refine (HER.out _).mono ?_; rintro _ w5 ⟨rfl, hb5⟩; rw [HTR.out]
                         have hx5 := HXA.out.drew.below hb5 HXA.out.lt
                         have x0 : w5.cell? ⟨w3.heap.size, 0, none⟩ = some (.string (S lab)) := by rw [hx5.cell]; rfl
                         have x1 : w5.cell? ⟨w3.heap.size, 1, none⟩ = some (.pointer (some ⟨b', 0, none⟩)) := by rw [hx5.cell]; rfl
                         have x2 : w5.cell? ⟨w3.heap.size, 2, none⟩ = some (.pointer none) := by rw [hx5.cell]; rfl)
                      | fail))
                  have HB5 := hide (((Chg.ofBelow HBA.out (fun _ => False)).drew.toBelow).trans (hb5.mono HBA.out.size))
                  have HV5 := hide (HVA.out.below hb5)
                  clear hb5 hx5
                  go_wp2
                  go_ret
                  exact ⟨_, _, rfl, by rw [HZ.out]; exact HV5.out, HB5.out⟩
end Go.Proofs.YtjekaagjgamfkaaDoor
