/- The walk of Trie.PrefixesOf. Under sizes alone. -/
import Derived.Test.YtjekaagjgamfkaaDoorIn
import Derived.Test.YtjekaagjgamfkaaDoorVi
import Derived.Test.YtjekaagjgamfkaaDoorPf
namespace Go.Proofs.YtjekaagjgamfkaaDoor
open Go.RowKit T
attribute [local go_sem] S_size S_toList E_toList S_extract

/-- A trie that was whole in the world w0; nothing of it is written any more. -/
structure Base (w0 : World) (B root M : Nat) (s : St) (R : Nat → Value) : Prop where
  mem : Mem w0 B s R
  inv : Inv s root
  bnd : Bnd s M
  big : M ≤ 1099511627776

theorem Base.view {w0 w : World} {B root M n : Nat} {s : St} {R : Nat → Value} {d : Nd} (h : Base w0 B root M s R) (hb : Below w0.heap.size w0 w) (hd : s.D n = some d) :
    ∃ A c, w.cell? ⟨n, 0, none⟩ = some (.slice A d.es.length c) ∧ w.cell? ⟨n, 1, none⟩ = some (pv d.child) ∧ n < w.heap.size ∧ RdE w A d.es ∧ d.es.length ≤ 256 := by
  obtain ⟨A, c, hR, _, _, hrd⟩ := h.mem.rd hd
  have hn := (h.mem.node n d hd).below hb (h.mem.node n d hd).lt
  exact ⟨A, c, by rw [hn.cell, ← hR]; rfl, by rw [hn.cell]; rfl, hn.lt, hrd.below hb, h.inv.few hd⟩
theorem Base.leaf {w0 w : World} {B root M k : Nat} {s : St} {R : Nat → Value} {x : T.Bs × Int} (h : Base w0 B root M s R) (hb : Below w0.heap.size w0 w) (hk : s.V k = some x) : Blk w k 3 #[.int .i64 (val s k)] := by
  have := (h.mem.leaf k x hk).below hb (h.mem.leaf k x hk).lt
  obtain ⟨p, n⟩ := x
  rw [val_of hk]
  exact this
theorem RdE.at_ {w : World} {A : Option Addr} {es : List Ed} {i : Nat} {lab : T.Bs} {tg : Tg} (h : RdE w A es) (hi : es[i]? = some ⟨lab, tg⟩) : ∃ g, A = some ⟨g, 0, none⟩ ∧ g < w.heap.size ∧ w.cell? ⟨g, i * 3, none⟩ = some (.string (S lab)) ∧ w.cell? ⟨g, i * 3 + 1, none⟩ = some (pv tg.nodeP) ∧ w.cell? ⟨g, i * 3 + 2, none⟩ = some (pv tg.leafP) := h i _ hi

theorem Mem.later {w0 w : World} {B : Nat} {s : St} {R : Nat → Value} (h : Mem w0 B s R) (hb : Below w0.heap.size w0 w) : Mem w B s R := h.below hb
theorem Pos.no {es : List Ed} {b i c : Nat} (h : Pos es b i) (e : c = b) (hs : es.Pairwise (fun e f => T.hd e.lab < T.hd f.lab)) (hf : found es b i = false) : ∀ e ∈ es, T.hd e.lab ≠ c := by
  subst e
  intro e he
  rw [← List.take_append_drop i es] at he
  rcases List.mem_append.1 he with he | he
  · exact Nat.ne_of_lt (h.lo e he)
  · exact (Nat.ne_of_lt (h.gt hs hf e he)).symm
theorem VisSt.below {w w' ws : World} {T fb off lb mb : Nat} {most : Int} {er : Value} {cs : Array Value} {xs : List Int} {v : Value} (h : VisSt w ws T fb off lb mb most er cs xs v) (hb : Below w.heap.size w w') : VisSt w' ws T fb off lb mb most er cs xs v :=
  ⟨h.fbk.below hb h.fbk.lt, own_chg h.own (Chg.ofBelow hb (fun _ => False)) (fun _ _ => id), h.lbk.below hb h.lbk.lt, h.mbk.below hb h.mbk.lt, (hb.cell (p := ⟨0, 0, none⟩) (by have := h.pos; have := h.le; have := h.fbk.lt; show 0 < _; omega)).trans h.erc, h.offs, h.le, h.pos, h.mlt, h.llt, h.chg.trans (Chg.ofBelow hb (fun i => i = fb)) (fun _ _ h => h), h.fresh⟩

theorem pre_yes {lab r : T.Bs} (h : r.take lab.length = lab) : lab.isPrefixOf r = true := List.isPrefixOf_iff_prefix.2 (List.prefix_iff_eq_take.2 h.symm)
theorem pre_not {lab r : T.Bs} (h : ¬ r.take lab.length = lab) : lab.isPrefixOf r = false := by
  rw [Bool.eq_false_iff]
  intro h1
  exact h (List.prefix_iff_eq_take.1 (List.isPrefixOf_iff_prefix.1 h1)).symm
theorem pre_long {lab r : T.Bs} (h : r.length < lab.length) : lab.isPrefixOf r = false := pre_not (fun e => by
  have := congrArg List.length e
  rw [List.length_take] at this
  have h2 : min lab.length r.length = lab.length := this
  omega)
theorem vist_one {most n : Int} {xs : List Int} : (vist most xs [n]).1 = xs ++ [n] := by
  by_cases h : (xs.length : Int) + 1 = most
  · rw [vist_hit h]
  · rw [vist_go h, vist_nil]
theorem VisSt.alloc {w ws : World} {T fb off lb mb : Nat} {most : Int} {er : Value} {cs : Array Value} {xs : List Int} {v : Value} (h : VisSt w ws T fb off lb mb most er cs xs v) (o : Obj) (q : Nat) : VisSt ((w.alloc o).drewN q) ws T fb off lb mb most er cs xs v :=
  (h.below ((Below.refl _ _).alloc (Nat.le_refl _) o)).drewN q
theorem below_alloc_q {B : Nat} {w0 w : World} (h : Below B w0 w) (hB : B ≤ w.heap.size) (o : Obj) (q : Nat) : Below B w0 ((w.alloc o).drewN q) :=
  ⟨h.os, h.tape, h.output, Nat.le_trans h.size (by simp [World.drewN]), fun k hk => (Below.heap_alloc w o k (by omega)).trans (h.block k hk)⟩

/-- The state of a walk down, visiting. -/
structure PxSt (w0 ws w : World) (B root M fb off lb mb : Nat) (s : St) (R : Nat → Value) (most : Int) (er : Value) (cs : Array Value) (xs : List Int) (L : List Nat) (Z : List Int × Bool) (v : Value) : Prop where
  base : Base w0 B root M s R
  bel : Below w0.heap.size w0 w
  vis : VisSt w ws w0.heap.size fb off lb mb most er cs xs v
  goal : Z = vist most xs (L.map (val s))
  len : xs.length + L.length ≤ 2147483647

def PxOut (w0 ws : World) (fb off lb mb : Nat) (most : Int) (er : Value) (cs : Array Value) (ys : List Int) (e : Ending) (w' : World) : Prop :=
  ∃ v' u, e = .returned u ∧ VisSt w' ws w0.heap.size fb off lb mb most er cs ys v' ∧ Below w0.heap.size w0 w'

set_option linter.unusedSimpArgs false in
set_option linter.unusedVariables false in
set_option maxHeartbeats 4000000 in
set_option maxRecDepth 100000 in
theorem prefixes_any (w0 ws w : World) (B root M fb off lb mb : Nat) (s : St) (R : Nat → Value) (most : Int) (et ep : Value) (er : Value) (cs : Array Value) (xs : List Int) (v : Value) (str : T.Bs)
    (hbase : Base w0 B root M s R) (hbel : Below w0.heap.size w0 w) (hvis : VisSt w ws w0.heap.size fb off lb mb most er cs xs v) (her : ∃ et ep, er = .iface et ep) (hl : str.length ≤ 1099511627776) (hlen : xs.length + (pfx s (str.length + 1) root str).length ≤ 2147483647) :
    Calls Tryd.prog 18 #[.pointer (some ⟨root, 0, none⟩), .string (S str), .func (.func 17) #[] #[.pointer (some ⟨lb, 0, none⟩), .pointer (some ⟨mb, 0, none⟩)]] w (PxOut w0 ws fb off lb mb most er cs (vist most xs ((pfx s (str.length + 1) root str).map (val s))).1) := by
  obtain ⟨Z, hZ⟩ : ∃ Z, Z = vist most xs ((pfx s (str.length + 1) root str).map (val s)) := ⟨_, rfl⟩
  rw [← hZ]
  have hst : PxSt w0 ws w B root M fb off lb mb s R most er cs xs (pfx s (str.length + 1) root str) Z v := ⟨hbase, hbel, hvis, hZ, hlen⟩
  have HST := hide hst
  obtain ⟨d0, hd0, _⟩ := hbase.inv.root
  have HD0 := hide hd0
  clear hbase hbel hvis hZ hlen hst hd0
  obtain ⟨et, ep, rfl⟩ := her
  go_enter Tryd.func18, Tryd.ntmps18
  go_wp2
  go_loopw [1, 7] (fun s1 s7 wr => ∃ (n : Nat) (r : T.Bs), s1 = .string (S r) ∧ s7 = .pointer (some ⟨n, 0, none⟩) ∧ r.length ≤ 1099511627776 ∧ Hid (∃ f ys u d, r.length < f ∧ s.D n = some d ∧ PxSt w0 ws wr B root M fb off lb mb s R most (.iface et ep) cs ys (pfx s f n r) Z u)) (fun s1 _ _ => strLen s1)
  case atStart => exact ⟨root, str, rfl, rfl, hl, (⟨str.length + 1, xs, v, d0, Nat.lt_succ_self _, HD0.out, HST.out⟩ : ∃ f ys u d, str.length < f ∧ s.D root = some d ∧ PxSt w0 ws w B root M fb off lb mb s R most (.iface et ep) cs ys (pfx s f root str) Z u)⟩
  case round =>
    obtain ⟨n, r, rfl, rfl, hrl, HI⟩ := hrel
    obtain ⟨f, ys, u, d, hrf, hd, hs⟩ := HI.out
    obtain ⟨f, rfl⟩ : ∃ f', f = f' + 1 := ⟨f - 1, by omega⟩
    obtain ⟨A, c, c0, c1, hn, hrd, hfew⟩ := hs.base.view hs.bel hd
    have HS := hide hs
    have HD := hide hd
    have HRD := hide hrd
    clear hd hs hrd HI hfew
    -- the part behind the node's own value
    cases hch : d.child with
    | none =>
      rw [hch, pv_none] at c1
      have ht : PxSt w0 ws wr B root M fb off lb mb s R most (.iface et ep) cs ys (rst s f d r) Z u := by
        have := HS.out
        rw [pfx_rst HD.out, hch] at this
        exact this
      have HT := hide ht
      have HCH := hide hch
      clear hch ht
      by_cases hr0 : r = []
      · subst hr0
        have hz := HT.out.goal
        rw [rst_end rfl] at hz
        have HZ := hide hz
        clear hz
        go_wp2
        go_ret
        exact ⟨_, _, rfl, by rw [HZ.out]; exact HT.out.vis, HT.out.bel⟩
      · obtain ⟨x, hx0, hxh⟩ := hd_at hr0
        have hix : ∀ W : World, (Instr.index 9 (.string (S r)) (.int .i64 0)).run Tryd.prog W = .ok (.int .u8 (x.toNat : Int)) W := index_S (k := 0) hx0
        have hre : r.isEmpty = false := by simpa using hr0
        have HX := hide hxh
        have HR0 := hide hr0
        have HRE := hide hre
        clear hx0 hxh hr0
        have hfind := find_any B root n s R d x wr (HT.out.base.mem.later HT.out.bel) HT.out.base.inv HD.out
        have HF := hide hfind
        clear hfind
        go_wp2_with fail
        refine HF.out.mono ?_
        clear HF
        rintro e w3 ⟨i, rfl, hpos, hb3⟩
        have hbel3 := HT.out.bel.trans (hb3.mono HT.out.bel.size)
        obtain ⟨A3, c3, c30, c31, hn3, hrd3, hfew⟩ := HT.out.base.view hbel3 HD.out
        have HP := hide hpos
        have HB3 := hide hb3
        have HBEL := hide hbel3
        have HRD3 := hide hrd3
        clear hpos hb3 hbel3 hrd3 hfew
        cases hfd : found d.es x.toNat i with
        | false =>
          have hno : fnd d.es (T.hd r) = none := fnd_no (HP.out.no (HX.out ▸ rfl) (HT.out.base.inv.sort n d HD.out) hfd)
          have hz := HT.out.goal
          rw [rst_no hno] at hz
          have HZ := hide hz
          clear hz hfd hno
          go_wp2
          go_ret
          exact ⟨_, _, rfl, by rw [HZ.out]; exact HT.out.vis.below HB3.out, HBEL.out⟩
        | true =>
          obtain ⟨e, he, heh⟩ := found_at hfd
          have hfn : fnd d.es (T.hd r) = some e := fnd_at (HT.out.base.inv.sort n d HD.out) he (heh.trans HX.out.symm)
          obtain ⟨lab, tg⟩ := e
          obtain ⟨g, rfl, hg, k0, k1, k2⟩ := HRD3.out.at_ he
          have hil := (List.getElem?_eq_some_iff.1 he).1
          have hel := HT.out.base.inv.lab n d _ HD.out (List.mem_of_getElem? he)
          have HFN := hide hfn
          have HEL := hide hel
          have HE := hide he
          clear hfd heh hfn hel he
          cases tg with
          | leaf k9 =>
            simp only [pv_some, pv_none, Tg.nodeP, Tg.leafP] at k1 k2
            by_cases hlt : r.length < lab.length
            · have hd1 : decide (r.length < lab.length) = true := decide_eq_true hlt
              have hz := HT.out.goal
              rw [rst_off HFN.out (pre_long hlt)] at hz
              have HZ := hide hz
              clear hz hlt
              go_wp2
              go_quiet (fail)
              go_wp2
              go_ret
              exact ⟨_, _, rfl, by rw [HZ.out]; exact (HT.out.vis.below HB3.out).alloc _ _, below_alloc_q HBEL.out (HBEL.out.size) _ _⟩
            · have hd1 : decide (r.length < lab.length) = false := decide_eq_false hlt
              have hle : lab.length ≤ r.length := by omega
              by_cases hpre : r.take lab.length = lab
              · have hd2 : (r.take lab.length == lab) = true := by simpa using hpre
                have HPRE := hide hpre
                have hz := HT.out.goal
                have hzl := HT.out.len
                rw [rst_leaf HRE.out HFN.out (pre_yes HPRE.out)] at hz hzl
                obtain ⟨m9, hv9⟩ := HT.out.base.inv.tgL n d _ k9 HD.out (List.mem_of_getElem? HE.out) rfl
                have hk9 := fun W hW => HT.out.base.leaf (w := W) hW hv9
                have hyl : ys.length ≤ 2147483647 := by omega
                have HZ := hide hz
                have HK9 := hide hk9
                clear hpre hz hzl hv9 hk9
                go_wp2
                go_quiet (fail)
                go_wp2_with fail
                refine (visit_any w0.heap.size fb off lb mb k9 most (val s k9) _ ys cs u _ ((HT.out.vis.below HB3.out).alloc _ _) (HK9.out _ (below_alloc_q HBEL.out HBEL.out.size _ _)) hyl).mono ?_
                rintro _ w4 ⟨v4, rfl, hv4, hb4⟩
                have HV4 := hide hv4
                have HB4 := hide ((below_alloc_q HBEL.out HBEL.out.size _ _).trans hb4)
                clear hv4 hb4
                go_wp2
                all_goals
                  go_ret
                  refine ⟨v4, _, rfl, ?_, HB4.out⟩
                  rw [HZ.out]
                  simp only [List.map_cons, List.map_nil, vist_one]
                  exact HV4.out
              · have hd2 : (r.take lab.length == lab) = false := by simpa using hpre
                have hz := HT.out.goal
                rw [rst_off HFN.out (pre_not hpre)] at hz
                have HZ := hide hz
                clear hz hpre
                go_wp2
                go_quiet (fail)
                go_wp2
                go_ret
                exact ⟨_, _, rfl, by rw [HZ.out]; exact (HT.out.vis.below HB3.out).alloc _ _, below_alloc_q HBEL.out (HBEL.out.size) _ _⟩
          | node b' =>
            simp only [pv_some, pv_none, Tg.nodeP, Tg.leafP] at k1 k2
            by_cases hlt : r.length < lab.length
            · have hd1 : decide (r.length < lab.length) = true := decide_eq_true hlt
              have hz := HT.out.goal
              rw [rst_off HFN.out (pre_long hlt)] at hz
              have HZ := hide hz
              clear hz hlt
              go_wp2
              go_quiet (fail)
              go_wp2
              go_ret
              exact ⟨_, _, rfl, by rw [HZ.out]; exact (HT.out.vis.below HB3.out).alloc _ _, below_alloc_q HBEL.out (HBEL.out.size) _ _⟩
            · have hd1 : decide (r.length < lab.length) = false := decide_eq_false hlt
              have hle : lab.length ≤ r.length := by omega
              by_cases hpre : r.take lab.length = lab
              · have hd2 : (r.take lab.length == lab) = true := by simpa using hpre
                have HPRE := hide hpre
                have hz := HT.out.goal
                have hzl := HT.out.len
                rw [rst_node HRE.out HFN.out (pre_yes HPRE.out)] at hz hzl
                obtain ⟨d2, hd2a, hd2b⟩ := HT.out.base.inv.tgN n d _ b' HD.out (List.mem_of_getElem? HE.out) rfl
                have hlp : 0 < lab.length := List.length_pos_iff.2 HEL.out
                have hrm : (r.drop lab.length).length < r.length := by rw [List.length_drop]; omega
                have hrf2 : (r.drop lab.length).length < f := by omega
                have hrl2 : (r.drop lab.length).length ≤ 1099511627776 := by omega
                have HZ := hide hz
                have HZL := hide hzl
                have HD2 := hide hd2a
                have HRM := hide hrm
                have HRF := hide hrf2
                have HRL := hide hrl2
                clear hpre hz hzl hd2a hd2b hlp hrm hrf2 hrl2
                go_wp2
                go_quiet (fail)
                go_wp2
                go_roundw
                case measure => rw [strLen_S, strLen_S]; exact HRM.out
                case rel =>
                  refine ⟨b', _, rfl, rfl, HRL.out, ?_⟩
                  exact (⟨f, ys, u, d2, HRF.out, HD2.out, HT.out.base, below_alloc_q HBEL.out HBEL.out.size _ _, (HT.out.vis.below HB3.out).alloc _ _, HZ.out, HZL.out⟩ : ∃ f ys u d, (r.drop lab.length).length < f ∧ s.D b' = some d ∧ PxSt w0 ws _ B root M fb off lb mb s R most (.iface et ep) cs ys (pfx s f b' (r.drop lab.length)) Z u)
              · have hd2 : (r.take lab.length == lab) = false := by simpa using hpre
                have hz := HT.out.goal
                rw [rst_off HFN.out (pre_not hpre)] at hz
                have HZ := hide hz
                clear hz hpre
                go_wp2
                go_quiet (fail)
                go_wp2
                go_ret
                exact ⟨_, _, rfl, by rw [HZ.out]; exact (HT.out.vis.below HB3.out).alloc _ _, below_alloc_q HBEL.out (HBEL.out.size) _ _⟩
    | some k =>
      rw [hch, pv_some] at c1
      have HCH := hide hch
      obtain ⟨m8, hv8⟩ := HS.out.base.inv.chi n d k HD.out hch
      have hk8 := HS.out.base.leaf HS.out.bel hv8
      have hlen := HS.out.len
      have hgo := HS.out.goal
      rw [pfx_rst HD.out, hch, Option.toList_some, List.singleton_append] at hlen hgo
      rw [List.length_cons] at hlen
      rw [List.map_cons] at hgo
      have hyl : ys.length ≤ 2147483647 := by omega
      have HK8 := hide hk8
      have HLEN := hide hlen
      have HGO := hide hgo
      clear hch hv8 hk8 hlen hgo
      go_wp2_with fail
      refine (visit_any w0.heap.size fb off lb mb k most (val s k) _ ys cs u _ HS.out.vis HK8.out hyl).mono ?_
      rintro _ w2 ⟨v2, rfl, hv2, hb2⟩
      have HV2 := hide hv2
      have HB2 := hide (HS.out.bel.trans hb2)
      clear hv2 hb2
      by_cases hq : (ys.length : Int) + 1 = most
      · have hz := HGO.out
        rw [vist_hit hq] at hz
        have HZ := hide hz
        rw [if_pos hq]
        clear hz hq
        go_wp2
        go_ret
        exact ⟨v2, _, rfl, by rw [HZ.out]; exact HV2.out, HB2.out⟩
      · have hz := HGO.out
        rw [vist_go hq] at hz
        rw [if_neg hq]
        have ht : PxSt w0 ws w2 B root M fb off lb mb s R most (.iface et ep) cs (ys ++ [val s k]) (rst s f d r) Z v2 := ⟨HS.out.base, HB2.out, HV2.out, hz, by have := HLEN.out; simp; omega⟩
        have HT := hide ht
        obtain ⟨A2, c2, c20, c21, hn2, hrd2, hfew2⟩ := HS.out.base.view HB2.out HD.out
        rw [HCH.out, pv_some] at c21
        clear hz hq ht c0 c1 hn hrd2 hfew2
        by_cases hr0 : r = []
        · subst hr0
          have hz := HT.out.goal
          rw [rst_end rfl] at hz
          have HZ := hide hz
          clear hz
          go_wp2
          go_ret
          exact ⟨_, _, rfl, by rw [HZ.out]; exact HT.out.vis, HT.out.bel⟩
        · obtain ⟨x, hx0, hxh⟩ := hd_at hr0
          have hix : ∀ W : World, (Instr.index 9 (.string (S r)) (.int .i64 0)).run Tryd.prog W = .ok (.int .u8 (x.toNat : Int)) W := index_S (k := 0) hx0
          have hre : r.isEmpty = false := by simpa using hr0
          have HX := hide hxh
          have HR0 := hide hr0
          have HRE := hide hre
          clear hx0 hxh hr0
          have hfind := find_any B root n s R d x w2 (HT.out.base.mem.later HT.out.bel) HT.out.base.inv HD.out
          have HF := hide hfind
          clear hfind
          go_wp2_with fail
          refine HF.out.mono ?_
          clear HF
          rintro e w3 ⟨i, rfl, hpos, hb3⟩
          have hbel3 := HT.out.bel.trans (hb3.mono HT.out.bel.size)
          obtain ⟨A3, c3, c30, c31, hn3, hrd3, hfew⟩ := HT.out.base.view hbel3 HD.out
          have HP := hide hpos
          have HB3 := hide hb3
          have HBEL := hide hbel3
          have HRD3 := hide hrd3
          clear hpos hb3 hbel3 hrd3 hfew
          cases hfd : found d.es x.toNat i with
          | false =>
            have hno : fnd d.es (T.hd r) = none := fnd_no (HP.out.no (HX.out ▸ rfl) (HT.out.base.inv.sort n d HD.out) hfd)
            have hz := HT.out.goal
            rw [rst_no hno] at hz
            have HZ := hide hz
            clear hz hfd hno
            go_wp2
            go_ret
            exact ⟨_, _, rfl, by rw [HZ.out]; exact HT.out.vis.below HB3.out, HBEL.out⟩
          | true =>
            obtain ⟨e, he, heh⟩ := found_at hfd
            have hfn : fnd d.es (T.hd r) = some e := fnd_at (HT.out.base.inv.sort n d HD.out) he (heh.trans HX.out.symm)
            obtain ⟨lab, tg⟩ := e
            obtain ⟨g, rfl, hg, k0, k1, k2⟩ := HRD3.out.at_ he
            have hil := (List.getElem?_eq_some_iff.1 he).1
            have hel := HT.out.base.inv.lab n d _ HD.out (List.mem_of_getElem? he)
            have HFN := hide hfn
            have HEL := hide hel
            have HE := hide he
            clear hfd heh hfn hel he
            cases tg with
            | leaf k9 =>
              simp only [pv_some, pv_none, Tg.nodeP, Tg.leafP] at k1 k2
              by_cases hlt : r.length < lab.length
              · have hd1 : decide (r.length < lab.length) = true := decide_eq_true hlt
                have hz := HT.out.goal
                rw [rst_off HFN.out (pre_long hlt)] at hz
                have HZ := hide hz
                clear hz hlt
                go_wp2
                go_quiet (fail)
                go_wp2
                go_ret
                exact ⟨_, _, rfl, by rw [HZ.out]; exact (HT.out.vis.below HB3.out).alloc _ _, below_alloc_q HBEL.out (HBEL.out.size) _ _⟩
              · have hd1 : decide (r.length < lab.length) = false := decide_eq_false hlt
                have hle : lab.length ≤ r.length := by omega
                by_cases hpre : r.take lab.length = lab
                · have hd2 : (r.take lab.length == lab) = true := by simpa using hpre
                  have HPRE := hide hpre
                  have hz := HT.out.goal
                  have hzl := HT.out.len
                  rw [rst_leaf HRE.out HFN.out (pre_yes HPRE.out)] at hz hzl
                  obtain ⟨m9, hv9⟩ := HT.out.base.inv.tgL n d _ k9 HD.out (List.mem_of_getElem? HE.out) rfl
                  have hk9 := fun W hW => HT.out.base.leaf (w := W) hW hv9
                  have hyl : (ys ++ [val s k]).length ≤ 2147483647 := by omega
                  have HZ := hide hz
                  have HK9 := hide hk9
                  clear hpre hz hzl hv9 hk9
                  go_wp2
                  go_quiet (fail)
                  go_wp2_with fail
                  refine (visit_any w0.heap.size fb off lb mb k9 most (val s k9) _ (ys ++ [val s k]) cs v2 _ ((HT.out.vis.below HB3.out).alloc _ _) (HK9.out _ (below_alloc_q HBEL.out HBEL.out.size _ _)) hyl).mono ?_
                  rintro _ w4 ⟨v4, rfl, hv4, hb4⟩
                  have HV4 := hide hv4
                  have HB4 := hide ((below_alloc_q HBEL.out HBEL.out.size _ _).trans hb4)
                  clear hv4 hb4
                  go_wp2
                  all_goals
                    go_ret
                    refine ⟨v4, _, rfl, ?_, HB4.out⟩
                    rw [HZ.out]
                    simp only [List.map_cons, List.map_nil, vist_one]
                    exact HV4.out
                · have hd2 : (r.take lab.length == lab) = false := by simpa using hpre
                  have hz := HT.out.goal
                  rw [rst_off HFN.out (pre_not hpre)] at hz
                  have HZ := hide hz
                  clear hz hpre
                  go_wp2
                  go_quiet (fail)
                  go_wp2
                  go_ret
                  exact ⟨_, _, rfl, by rw [HZ.out]; exact (HT.out.vis.below HB3.out).alloc _ _, below_alloc_q HBEL.out (HBEL.out.size) _ _⟩
            | node b' =>
              simp only [pv_some, pv_none, Tg.nodeP, Tg.leafP] at k1 k2
              by_cases hlt : r.length < lab.length
              · have hd1 : decide (r.length < lab.length) = true := decide_eq_true hlt
                have hz := HT.out.goal
                rw [rst_off HFN.out (pre_long hlt)] at hz
                have HZ := hide hz
                clear hz hlt
                go_wp2
                go_quiet (fail)
                go_wp2
                go_ret
                exact ⟨_, _, rfl, by rw [HZ.out]; exact (HT.out.vis.below HB3.out).alloc _ _, below_alloc_q HBEL.out (HBEL.out.size) _ _⟩
              · have hd1 : decide (r.length < lab.length) = false := decide_eq_false hlt
                have hle : lab.length ≤ r.length := by omega
                by_cases hpre : r.take lab.length = lab
                · have hd2 : (r.take lab.length == lab) = true := by simpa using hpre
                  have HPRE := hide hpre
                  have hz := HT.out.goal
                  have hzl := HT.out.len
                  rw [rst_node HRE.out HFN.out (pre_yes HPRE.out)] at hz hzl
                  obtain ⟨d2, hd2a, hd2b⟩ := HT.out.base.inv.tgN n d _ b' HD.out (List.mem_of_getElem? HE.out) rfl
                  have hlp : 0 < lab.length := List.length_pos_iff.2 HEL.out
                  have hrm : (r.drop lab.length).length < r.length := by rw [List.length_drop]; omega
                  have hrf2 : (r.drop lab.length).length < f := by omega
                  have hrl2 : (r.drop lab.length).length ≤ 1099511627776 := by omega
                  have HZ := hide hz
                  have HZL := hide hzl
                  have HD2 := hide hd2a
                  have HRM := hide hrm
                  have HRF := hide hrf2
                  have HRL := hide hrl2
                  clear hpre hz hzl hd2a hd2b hlp hrm hrf2 hrl2
                  go_wp2
                  go_quiet (fail)
                  go_wp2
                  go_roundw
                  case measure => rw [strLen_S, strLen_S]; exact HRM.out
                  case rel =>
                    refine ⟨b', _, rfl, rfl, HRL.out, ?_⟩
                    exact (⟨f, ys ++ [val s k], v2, d2, HRF.out, HD2.out, HT.out.base, below_alloc_q HBEL.out HBEL.out.size _ _, (HT.out.vis.below HB3.out).alloc _ _, HZ.out, HZL.out⟩ : ∃ f ys u d, (r.drop lab.length).length < f ∧ s.D b' = some d ∧ PxSt w0 ws _ B root M fb off lb mb s R most (.iface et ep) cs ys (pfx s f b' (r.drop lab.length)) Z u)
                · have hd2 : (r.take lab.length == lab) = false := by simpa using hpre
                  have hz := HT.out.goal
                  rw [rst_off HFN.out (pre_not hpre)] at hz
                  have HZ := hide hz
                  clear hz hpre
                  go_wp2
                  go_quiet (fail)
                  go_wp2
                  go_ret
                  exact ⟨_, _, rfl, by rw [HZ.out]; exact (HT.out.vis.below HB3.out).alloc _ _, below_alloc_q HBEL.out (HBEL.out.size) _ _⟩
end Go.Proofs.YtjekaagjgamfkaaDoor
