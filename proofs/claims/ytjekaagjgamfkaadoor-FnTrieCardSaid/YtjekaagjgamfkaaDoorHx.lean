/- The walk of Trie.HasPrefixOf. Under sizes alone. -/
import Derived.Test.YtjekaagjgamfkaaDoorSx
namespace Go.Proofs.YtjekaagjgamfkaaDoor
open Go.RowKit T
attribute [local go_sem] S_size S_toList E_toList S_extract

/-- The state of a walk down, without a visit. -/
structure HxSt (w0 w wr : World) (B root M : Nat) (s : St) (R : Nat → Value) (L : List Nat) (Z : Bool) : Prop where
  base : Base w0 B root M s R
  bel : Below w0.heap.size w0 wr
  bel2 : Below w.heap.size w wr
  goal : Z = !L.isEmpty

def HxOut (w : World) (Z : Bool) (e : Ending) (w' : World) : Prop := e = .returned (.bool Z) ∧ Below w.heap.size w w'
theorem below_alloc_w {w wr w3 : World} (h : Below w.heap.size w wr) (h3 : Below wr.heap.size wr w3) (o : Obj) (q : Nat) : Below w.heap.size w ((w3.alloc o).drewN q) :=
  below_alloc_q (h.trans (h3.mono h.size)) (Nat.le_trans h.size h3.size) o q

set_option linter.unusedSimpArgs false in
set_option linter.unusedVariables false in
set_option maxHeartbeats 4000000 in
set_option maxRecDepth 100000 in
theorem hasprefix_any (w0 w : World) (B root M : Nat) (s : St) (R : Nat → Value) (str : T.Bs) (hbase : Base w0 B root M s R) (hbel : Below w0.heap.size w0 w) (hl : str.length ≤ 1099511627776) :
    Calls Tryd.prog 21 #[.pointer (some ⟨root, 0, none⟩), .string (S str)] w (HxOut w (!(pfx s (str.length + 1) root str).isEmpty)) := by
  obtain ⟨Z, hZ⟩ : ∃ Z, Z = !(pfx s (str.length + 1) root str).isEmpty := ⟨_, rfl⟩
  rw [← hZ]
  have hst : HxSt w0 w w B root M s R (pfx s (str.length + 1) root str) Z := ⟨hbase, hbel, Below.refl _ _, hZ⟩
  have HST := hide hst
  obtain ⟨d0, hd0, _⟩ := hbase.inv.root
  have HD0 := hide hd0
  clear hbase hbel hZ hst hd0
  go_enter Tryd.func21, Tryd.ntmps21
  go_wp2
  go_loopw [1, 5] (fun s1 s7 wr => ∃ (n : Nat) (r : T.Bs), s1 = .string (S r) ∧ s7 = .pointer (some ⟨n, 0, none⟩) ∧ r.length ≤ 1099511627776 ∧ Hid (∃ f d, r.length < f ∧ s.D n = some d ∧ HxSt w0 w wr B root M s R (pfx s f n r) Z)) (fun s1 _ _ => strLen s1)
  case atStart => exact ⟨root, str, rfl, rfl, hl, (⟨str.length + 1, d0, Nat.lt_succ_self _, HD0.out, HST.out⟩ : ∃ f d, str.length < f ∧ s.D root = some d ∧ HxSt w0 w w B root M s R (pfx s f root str) Z)⟩
  case round =>
    obtain ⟨n, r, rfl, rfl, hrl, HI⟩ := hrel
    obtain ⟨f, d, hrf, hd, hs⟩ := HI.out
    obtain ⟨f, rfl⟩ : ∃ f', f = f' + 1 := ⟨f - 1, by omega⟩
    obtain ⟨A, c, c0, c1, hn, hrd, hfew⟩ := hs.base.view hs.bel hd
    have HS := hide hs
    have HD := hide hd
    clear hd hs hrd HI hfew
    cases hch : d.child with
    | none =>
      rw [hch, pv_none] at c1
      have ht : HxSt w0 w wr B root M s R (rst s f d r) Z := by
        have := HS.out
        rw [pfx_rst HD.out, hch] at this
        exact this
      have HT := hide ht
      have HCH := hide hch
      clear hch ht
      by_cases hr0 : r = []
      · subst hr0
        have hz := HT.out.goal
        rw [rst_end rfl] at hz
        have HZ := hide hz
        clear hz
        go_wp2
        go_ret
        exact ⟨by rw [HZ.out]; rfl, HT.out.bel2⟩
      · obtain ⟨x, hx0, hxh⟩ := hd_at hr0
        have hix : ∀ W : World, (Instr.index 9 (.string (S r)) (.int .i64 0)).run Tryd.prog W = .ok (.int .u8 (x.toNat : Int)) W := index_S (k := 0) hx0
        have hre : r.isEmpty = false := by simpa using hr0
        have HX := hide hxh
        have HR0 := hide hr0
        have HRE := hide hre
        clear hx0 hxh hr0
        have hfind := find_any B root n s R d x wr (HT.out.base.mem.later HT.out.bel) HT.out.base.inv HD.out
        have HF := hide hfind
        clear hfind
        go_wp2_with fail
        refine HF.out.mono ?_
        clear HF
        rintro e w3 ⟨i, rfl, hpos, hb3⟩
        have hbel3 := HT.out.bel.trans (hb3.mono HT.out.bel.size)
        obtain ⟨A3, c3, c30, c31, hn3, hrd3, hfew⟩ := HT.out.base.view hbel3 HD.out
        have HP := hide hpos
        have HB3 := hide hb3
        have HBEL := hide hbel3
        have HRD3 := hide hrd3
        clear hpos hb3 hbel3 hrd3 hfew
        cases hfd : found d.es x.toNat i with
        | false =>
          have hno : fnd d.es (T.hd r) = none := fnd_no (HP.out.no (HX.out ▸ rfl) (HT.out.base.inv.sort n d HD.out) hfd)
          have hz := HT.out.goal
          rw [rst_no hno] at hz
          have HZ := hide hz
          clear hz hfd hno
          go_wp2
          go_ret
          exact ⟨by rw [HZ.out]; rfl, HT.out.bel2.trans (HB3.out.mono HT.out.bel2.size)⟩
        | true =>
          obtain ⟨e, he, heh⟩ := found_at hfd
          have hfn : fnd d.es (T.hd r) = some e := fnd_at (HT.out.base.inv.sort n d HD.out) he (heh.trans HX.out.symm)
          obtain ⟨lab, tg⟩ := e
          obtain ⟨g, rfl, hg, k0, k1, k2⟩ := HRD3.out.at_ he
          have hil := (List.getElem?_eq_some_iff.1 he).1
          have hel := HT.out.base.inv.lab n d _ HD.out (List.mem_of_getElem? he)
          have H21 := hide hfn
          have HEL := hide hel
          have HE := hide he
          clear hfd heh hfn hel he
          cases tg with
          | leaf k9 =>
            simp only [pv_some, pv_none, Tg.nodeP, Tg.leafP] at k1 k2
            by_cases hlt : r.length < lab.length
            · have hd1 : decide (r.length < lab.length) = true := decide_eq_true hlt
              have hz := HT.out.goal
              rw [rst_off H21.out (pre_long hlt)] at hz
              have HZ := hide hz
              clear hz hlt
              go_wp2
              go_quiet (fail)
              go_wp2
              go_ret
              exact ⟨by rw [HZ.out]; rfl, below_alloc_w HT.out.bel2 HB3.out _ _⟩
            · have hd1 : decide (r.length < lab.length) = false := decide_eq_false hlt
              have hle : lab.length ≤ r.length := by omega
              by_cases hpre : r.take lab.length = lab
              · have hd2 : (r.take lab.length == lab) = true := by simpa using hpre
                have HPRE := hide hpre
                have hz := HT.out.goal
                rw [rst_leaf HRE.out H21.out (pre_yes HPRE.out)] at hz
                have HZ := hide hz
                clear hpre hz
                go_wp2
                go_quiet (fail)
                go_wp2
                go_ret
                exact ⟨by rw [HZ.out]; rfl, below_alloc_w HT.out.bel2 HB3.out _ _⟩
              · have hd2 : (r.take lab.length == lab) = false := by simpa using hpre
                have hz := HT.out.goal
                rw [rst_off H21.out (pre_not hpre)] at hz
                have HZ := hide hz
                clear hz hpre
                go_wp2
                go_quiet (fail)
                go_wp2
                go_ret
                exact ⟨by rw [HZ.out]; rfl, below_alloc_w HT.out.bel2 HB3.out _ _⟩
          | node b' =>
            simp only [pv_some, pv_none, Tg.nodeP, Tg.leafP] at k1 k2
            by_cases hlt : r.length < lab.length
            · have hd1 : decide (r.length < lab.length) = true := decide_eq_true hlt
              have hz := HT.out.goal
              rw [rst_off H21.out (pre_long hlt)] at hz
              have HZ := hide hz
              clear hz hlt
              go_wp2
              go_quiet (fail)
              go_wp2
              go_ret
              exact ⟨by rw [HZ.out]; rfl, below_alloc_w HT.out.bel2 HB3.out _ _⟩
            · have hd1 : decide (r.length < lab.length) = false := decide_eq_false hlt
              have hle : lab.length ≤ r.length := by omega
              by_cases hpre : r.take lab.length = lab
              · have hd2 : (r.take lab.length == lab) = true := by simpa using hpre
                have HPRE := hide hpre
                have hz := HT.out.goal
                rw [rst_node HRE.out H21.out (pre_yes HPRE.out)] at hz
                obtain ⟨d2, hd2a, hd2b⟩ := HT.out.base.inv.tgN n d _ b' HD.out (List.mem_of_getElem? HE.out) rfl
                have hlp : 0 < lab.length := List.length_pos_iff.2 HEL.out
                have hrm : (r.drop lab.length).length < r.length := by rw [List.length_drop]; omega
                have hrf2 : (r.drop lab.length).length < f := by omega
                have hrl2 : (r.drop lab.length).length ≤ 1099511627776 := by omega
                have HZ := hide hz
                have HD2 := hide hd2a
                have HRM := hide hrm
                have HRF := hide hrf2
                have HRL := hide hrl2
                clear hpre hz hd2a hd2b hlp hrm hrf2 hrl2
                go_wp2
                go_quiet (fail)
                go_wp2
                go_roundw
                case measure => rw [strLen_S, strLen_S]; exact HRM.out
                case rel =>
                  refine ⟨b', _, rfl, rfl, HRL.out, ?_⟩
                  exact (⟨f, d2, HRF.out, HD2.out, HT.out.base, below_alloc_q HBEL.out HBEL.out.size _ _, below_alloc_w HT.out.bel2 HB3.out _ _, HZ.out⟩ : ∃ f d, (r.drop lab.length).length < f ∧ s.D b' = some d ∧ HxSt w0 w _ B root M s R (pfx s f b' (r.drop lab.length)) Z)
              · have hd2 : (r.take lab.length == lab) = false := by simpa using hpre
                have hz := HT.out.goal
                rw [rst_off H21.out (pre_not hpre)] at hz
                have HZ := hide hz
                clear hz hpre
                go_wp2
                go_quiet (fail)
                go_wp2
                go_ret
                exact ⟨by rw [HZ.out]; rfl, below_alloc_w HT.out.bel2 HB3.out _ _⟩
    | some k =>
      rw [hch, pv_some] at c1
      have hz := HS.out.goal
      rw [pfx_rst HD.out, hch, Option.toList_some, List.singleton_append] at hz
      have HZ := hide hz
      clear hch hz
      go_wp2
      go_ret
      exact ⟨by rw [HZ.out]; rfl, HS.out.bel2⟩
end Go.Proofs.YtjekaagjgamfkaaDoor
