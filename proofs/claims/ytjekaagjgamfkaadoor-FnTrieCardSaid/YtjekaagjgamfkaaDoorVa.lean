/- The walk of Trie.Values. Under sizes alone. -/
import Derived.Test.YtjekaagjgamfkaaDoorPx
namespace Go.Proofs.YtjekaagjgamfkaaDoor
open Go.RowKit T
attribute [local go_sem] S_size S_toList E_toList

/-- What Values hands back: an error just if the visit ended. -/
def VaOut (w0 ws : World) (fb off lb mb : Nat) (most : Int) (er : Value) (cs : Array Value) (Z : List Int × Bool) (w : World) (e : Ending) (w' : World) : Prop :=
  ∃ v', e = .returned (if Z.2 then er else .nilIface) ∧ VisSt w' ws w0.heap.size fb off lb mb most er cs Z.1 v' ∧ Below w0.heap.size w0 w' ∧ Kept fb w w'

theorem kept_alloc {fb : Nat} {w : World} (o : Obj) : Kept fb w ((w.alloc o).drewN 0) := fun _ _ _ h _ _ => (h.alloc o).drewN 0
theorem values_nil (lb mb : Nat) (w : World) : Calls Tryd.prog 20 #[.pointer none, .func (.func 17) #[] #[.pointer (some ⟨lb, 0, none⟩), .pointer (some ⟨mb, 0, none⟩)]] w fun e w' => e = .returned .nilIface ∧ w = w' := by
  go_enter Tryd.func20, Tryd.ntmps20
  go_wp2
  go_ret
  exact ⟨rfl, rfl⟩

theorem T.Bnd.depth {s : St} {M b b' root : Nat} {d d' : Nd} {e : Ed} (h : Bnd s M) (hv : Inv s root) (hd : s.D b = some d) (he : e ∈ d.es) (ht : e.tg = .node b') (hd' : s.D b' = some d') : M - d'.path.length < M - d.path.length := by
  obtain ⟨d2, h1, h2⟩ := hv.tgN b d e b' hd he ht
  rw [hd'] at h1
  cases h1
  have h3 := (h.node b' d' hd').1
  have h4 := hv.lab b d e hd he
  have h5 := List.length_pos_iff.2 h4
  rw [h2, List.length_append] at h3 ⊢
  have h6 : d.path.length + e.lab.length ≤ M := h3
  have h7 : 0 < e.lab.length := h5
  show M - (d.path.length + e.lab.length) < M - d.path.length
  omega

set_option linter.unusedSimpArgs false in
set_option linter.unusedVariables false in
set_option maxHeartbeats 4000000 in
set_option maxRecDepth 100000 in
theorem values_any (w0 ws : World) (B root M fb off lb mb : Nat) (s : St) (R : Nat → Value) (most : Int) (et : TypeId) (ep : Value) (cs : Array Value) :
    ∀ (f n : Nat) (d : Nd) (xs : List Int) (v : Value) (w : World) (Z : List Int × Bool), s.D n = some d → M - d.path.length < f → PxSt w0 ws w B root M fb off lb mb s R most (.iface et ep) cs xs (vals s f n) Z v →
    Calls Tryd.prog 20 #[.pointer (some ⟨n, 0, none⟩), .func (.func 17) #[] #[.pointer (some ⟨lb, 0, none⟩), .pointer (some ⟨mb, 0, none⟩)]] w (VaOut w0 ws fb off lb mb most (.iface et ep) cs Z w) := by
  intro f
  induction f with
  | zero => intro n d xs v w Z _ h; omega
  | succ f ih =>
  intro n d xs v w Z hd hf hst
  have IH := hide ih
  have HD := hide hd
  obtain ⟨A, c, c0, c1, hn, hrd, hfew⟩ := hst.base.view hst.bel hd
  have HRD := hide hrd
  have hgo := hst.goal
  have hlen := hst.len
  rw [vals_eq hd] at hgo hlen
  have HS := hide hst
  have HGO := hide hgo
  have HLEN := hide hlen
  have HF := hide hf
  clear ih hd hrd hst hgo hlen hf
  go_enter Tryd.func20, Tryd.ntmps20
  cases hch : d.child with
  | none =>
    rw [hch, pv_none] at c1
    have ht : PxSt w0 ws w B root M fb off lb mb s R most (.iface et ep) cs xs (d.es.flatMap (valE s f)) Z v := by
      refine ⟨HS.out.base, HS.out.bel, HS.out.vis, ?_, ?_⟩
      · have := HGO.out; rw [hch] at this; exact this
      · have := HLEN.out; rw [hch] at this; exact this
    have HT := hide ht
    have HCH := hide hch
    clear hch ht
    go_wp2
    go_loopw [31] (fun s31 wr => ∃ k : Nat, s31 = .int .i64 k ∧ k ≤ d.es.length ∧ Hid (∃ ys u, PxSt w0 ws wr B root M fb off lb mb s R most (.iface et ep) cs ys ((d.es.drop k).flatMap (valE s f)) Z u ∧ Kept fb w wr)) (fun s31 _ => d.es.length - (intOf s31).toNat)
    case atStart => exact ⟨0, rfl, Nat.zero_le _, (⟨_, _, HT.out, Kept.refl⟩ : ∃ ys u, PxSt w0 ws _ B root M fb off lb mb s R most (.iface et ep) cs ys ((d.es.drop 0).flatMap (valE s f)) Z u ∧ Kept fb w _)⟩
    case round =>
      obtain ⟨k, rfl, hk, HI⟩ := hrel
      obtain ⟨ys, u, hs, hkp⟩ := HI.out
      have HKP := hide hkp
      clear hkp
      obtain ⟨A3, c3, c30, c31, hn3, hrd3, hfew3⟩ := hs.base.view hs.bel HD.out
      by_cases hlt : k < d.es.length
      · obtain ⟨e, he⟩ : ∃ e, d.es[k]? = some e := ⟨_, List.getElem?_eq_getElem hlt⟩
        have hdr : d.es.drop k = e :: d.es.drop (k + 1) := by
          obtain ⟨h1, h2⟩ := List.getElem?_eq_some_iff.1 he
          rw [List.drop_eq_getElem_cons h1, h2]
        have hsg := hs.goal
        have hsl := hs.len
        rw [hdr, List.flatMap_cons] at hsg hsl
        rw [List.map_append] at hsg
        rw [List.length_append] at hsl
        obtain ⟨lab, tg⟩ := e
        obtain ⟨g, hA, hg, k0, k1, k2⟩ := hrd3.at_ he
        have HS3 := hide hs
        have HE := hide he
        have HSG := hide hsg
        have HSL := hide hsl
        -- the slice that the loop holds is the same one
        have hAE : A = A3 := by
          obtain ⟨A9, c9, hR9, _, _, _⟩ := HS3.out.base.mem.rd HD.out
          have h1 := ((HS3.out.base.mem.node n d HD.out).below HT.out.bel ((HS3.out.base.mem.node n d HD.out).lt)).cell 0
          have h2 := ((HS3.out.base.mem.node n d HD.out).below HS3.out.bel ((HS3.out.base.mem.node n d HD.out).lt)).cell 0
          rw [c0] at h1
          rw [c30] at h2
          have h3 := Option.some.inj (h1.trans h2.symm)
          injection h3
        subst hAE
        subst hA
        clear hs hrd3 hdr he hsg hsl hfew3 HI
        cases tg with
        | leaf k9 =>
          simp only [pv_some, pv_none, Tg.nodeP, Tg.leafP] at k1 k2
          obtain ⟨m9, hv9⟩ := HS3.out.base.inv.tgL n d _ k9 HD.out (List.mem_of_getElem? HE.out) rfl
          have hk9 := HS3.out.base.leaf (below_alloc_q HS3.out.bel HS3.out.bel.size (.cells #[.string (S lab), .pointer none, .pointer (some ⟨k9, 0, none⟩)] 64) 0) hv9
          have hz := HSG.out
          have hzl := HSL.out
          have e9 : valE s f ⟨lab, .leaf k9⟩ = [k9] := rfl
          rw [e9] at hz hzl
          rw [List.map_cons, List.map_nil] at hz
          have hyl : ys.length ≤ 2147483647 := by omega
          have hyl2 : (ys ++ [val s k9]).length + ((d.es.drop (k + 1)).flatMap (valE s f)).length ≤ 2147483647 := by
            rw [List.length_append]
            simp only [List.length_singleton] at hzl ⊢
            omega
          have HZ := hide hz
          have HYL := hide hyl2
          have HK9 := hide hk9
          clear hz hzl hv9 hk9 e9 hyl2
          go_wp2_with fail
          refine (values_nil lb mb _).mono ?_
          rintro _ w4 ⟨rfl, rfl⟩
          go_wp2_with fail
          refine (visit_anyK w0.heap.size fb off lb mb k9 most (val s k9) _ ys cs u _ (HS3.out.vis.alloc _ 0) HK9.out hyl).mono ?_
          rintro _ w4 ⟨v4, rfl, hv4, hb4, hk4⟩
          have HK4 := hide (HKP.out.trans ((kept_alloc (.cells #[.string (S lab), .pointer none, .pointer (some ⟨k9, 0, none⟩)] 64)).trans hk4))
          clear hk4
          have HV4 := hide hv4
          have HB4 := hide ((below_alloc_q HS3.out.bel HS3.out.bel.size (.cells #[.string (S lab), .pointer none, .pointer (some ⟨k9, 0, none⟩)] 64) 0).trans hb4)
          clear hv4 hb4
          by_cases hq : (ys.length : Int) + 1 = most
          · rw [if_pos hq]
            have hz := HZ.out
            rw [List.singleton_append, vist_hit hq] at hz
            have HZ2 := hide hz
            clear hz hq
            go_wp2
            go_ret
            exact ⟨v4, by rw [HZ2.out]; rfl, by rw [HZ2.out]; exact HV4.out, HB4.out, HK4.out⟩
          · rw [if_neg hq]
            have hz := HZ.out
            rw [List.singleton_append, vist_go hq] at hz
            have HZ2 := hide hz
            clear hz hq
            go_wp2
            go_roundw
            case measure => simp [intOf]; omega
            case rel =>
              refine ⟨k + 1, by go_num, by omega, ?_⟩
              exact (⟨_, _, ⟨HS3.out.base, HB4.out, HV4.out, HZ2.out, HYL.out⟩, HK4.out⟩ : ∃ ys u, PxSt w0 ws _ B root M fb off lb mb s R most (.iface et ep) cs ys ((d.es.drop (k + 1)).flatMap (valE s f)) Z u ∧ Kept fb w _)
        | node b' =>
          simp only [pv_some, pv_none, Tg.nodeP, Tg.leafP] at k1 k2
          obtain ⟨d2, hd2, hd2b⟩ := HS3.out.base.inv.tgN n d _ b' HD.out (List.mem_of_getElem? HE.out) rfl
          have hdep := HS3.out.base.bnd.depth HS3.out.base.inv HD.out (List.mem_of_getElem? HE.out) rfl hd2
          have e9 : valE s f ⟨lab, .node b'⟩ = vals s f b' := rfl
          have hz := HSG.out
          have hzl := HSL.out
          rw [e9] at hz hzl
          obtain ⟨Z2, hZ2⟩ : ∃ Z2, Z2 = vist most ys ((vals s f b').map (val s)) := ⟨_, rfl⟩
          rw [vist_append, ← hZ2] at hz
          have hl2 : Z2.1.length ≤ ys.length + (vals s f b').length := by
            have := vist_len (most := most) (xs := ys) (a := (vals s f b').map (val s))
            rw [← hZ2, List.length_map] at this
            exact this
          have hst2 : PxSt w0 ws ((wr.alloc (.cells #[.string (S lab), .pointer (some ⟨b', 0, none⟩), .pointer none] 64)).drewN 0) B root M fb off lb mb s R most (.iface et ep) cs ys (vals s f b') Z2 u := ⟨HS3.out.base, below_alloc_q HS3.out.bel HS3.out.bel.size _ 0, HS3.out.vis.alloc _ 0, hZ2, by omega⟩
          have hyl2 : Z2.1.length + ((d.es.drop (k + 1)).flatMap (valE s f)).length ≤ 2147483647 := by omega
          have hcall := IH.out b' d2 ys u _ Z2 hd2 (by have := HF.out; omega) hst2
          have HZ := hide hz
          have HYL := hide hyl2
          have HCALL := hide hcall
          have HX0 := hide (Blk.new wr 64 #[.string (S lab), .pointer (some ⟨b', 0, none⟩), .pointer none])
          have HBT : Hid (w0.heap.size ≤ wr.heap.size) := HS3.out.bel.size
          clear hz hzl e9 hZ2 hl2 hst2 hyl2 hcall hd2 hdep
          go_wp2_with fail
          refine HCALL.out.mono ?_
          clear HCALL
          rintro _ w4 ⟨v4, rfl, hv4, hb4, hk4⟩
          have hx4 := hk4 _ _ _ (HX0.out.drewN 0) (by decide) (fun e => by have h1 := HS3.out.vis.fbk.lt; rw [← e] at h1; exact absurd h1 (Nat.lt_irrefl _))
          have x2 : w4.cell? ⟨wr.heap.size, 2, none⟩ = some (.pointer none) := by rw [hx4.cell]; rfl
          have HV4 := hide hv4
          have HB4 := hide hb4
          have HK4 := hide (HKP.out.trans ((kept_alloc (.cells #[.string (S lab), .pointer (some ⟨b', 0, none⟩), .pointer none] 64)).trans hk4))
          clear hv4 hb4 hk4 hx4
          by_cases hq : Z2.2 = true
          · rw [if_pos hq]
            have hz := HZ.out
            rw [if_pos hq] at hz
            have HZ2 := hide hz
            have HQ := hide hq
            clear hz hq
            go_wp2
            go_ret
            exact ⟨v4, by rw [HZ2.out, if_pos HQ.out]; rfl, by rw [HZ2.out]; exact HV4.out, HB4.out, HK4.out⟩
          · rw [if_neg hq]
            have hz := HZ.out
            rw [if_neg hq] at hz
            have HZ2 := hide hz
            clear hz hq
            go_wp2
            go_roundw
            case measure => simp [intOf]; omega
            case rel =>
              refine ⟨k + 1, by go_num, by omega, ?_⟩
              exact (⟨_, _, ⟨HS3.out.base, HB4.out, HV4.out, HZ2.out, HYL.out⟩, HK4.out⟩ : ∃ ys u, PxSt w0 ws _ B root M fb off lb mb s R most (.iface et ep) cs ys ((d.es.drop (k + 1)).flatMap (valE s f)) Z u ∧ Kept fb w _)
      · have : k = d.es.length := by omega
        have hz := hs.goal
        rw [this, List.drop_length] at hz
        have HZ := hide hz
        have HS3 := hide hs
        clear hz hs this HI hrd3
        go_wp2
        go_ret
        exact ⟨u, by rw [HZ.out]; rfl, by rw [HZ.out]; exact HS3.out.vis, HS3.out.bel, HKP.out⟩
  | some k =>
    rw [hch, pv_some] at c1
    have HCH := hide hch
    obtain ⟨m8, hv8⟩ := HS.out.base.inv.chi n d k HD.out hch
    have hk8 := HS.out.base.leaf HS.out.bel hv8
    have hlen := HLEN.out
    have hgo := HGO.out
    rw [hch, Option.toList_some, List.singleton_append] at hlen hgo
    rw [List.length_cons] at hlen
    rw [List.map_cons] at hgo
    have hyl : xs.length ≤ 2147483647 := by omega
    have HK8 := hide hk8
    have HLEN2 := hide hlen
    have HGO2 := hide hgo
    clear hch hv8 hk8 hlen hgo
    go_wp2_with fail
    refine (visit_anyK w0.heap.size fb off lb mb k most (val s k) _ xs cs v _ HS.out.vis HK8.out hyl).mono ?_
    rintro _ w2 ⟨v2, rfl, hv2, hb2, hk2⟩
    have HK2 := hide hk2
    clear hk2
    have HV2 := hide hv2
    have HB2 := hide (HS.out.bel.trans hb2)
    clear hv2 hb2
    by_cases hq : (xs.length : Int) + 1 = most
    · have hz := HGO2.out
      rw [vist_hit hq] at hz
      have HZ := hide hz
      rw [if_pos hq]
      clear hz hq
      go_wp2
      go_ret
      exact ⟨v2, by rw [HZ.out]; rfl, by rw [HZ.out]; exact HV2.out, HB2.out, HK2.out⟩
    · have hz := HGO2.out
      rw [vist_go hq] at hz
      rw [if_neg hq]
      have ht : PxSt w0 ws w2 B root M fb off lb mb s R most (.iface et ep) cs (xs ++ [val s k]) (d.es.flatMap (valE s f)) Z v2 := ⟨HS.out.base, HB2.out, HV2.out, hz, by have := HLEN2.out; simp only [List.length_append, List.length_singleton] at this ⊢; omega⟩
      have HT := hide ht
      obtain ⟨A2, c2, c20, c21, hn2, hrd2, hfew2⟩ := HS.out.base.view HB2.out HD.out
      rw [HCH.out, pv_some] at c21
      clear hz hq ht c0 c1 hn hrd2
      go_wp2
      go_loopw [31] (fun s31 wr => ∃ k : Nat, s31 = .int .i64 k ∧ k ≤ d.es.length ∧ Hid (∃ ys u, PxSt w0 ws wr B root M fb off lb mb s R most (.iface et ep) cs ys ((d.es.drop k).flatMap (valE s f)) Z u ∧ Kept fb w wr)) (fun s31 _ => d.es.length - (intOf s31).toNat)
      case atStart => exact ⟨0, rfl, Nat.zero_le _, (⟨_, _, HT.out, HK2.out⟩ : ∃ ys u, PxSt w0 ws _ B root M fb off lb mb s R most (.iface et ep) cs ys ((d.es.drop 0).flatMap (valE s f)) Z u ∧ Kept fb w _)⟩
      case round =>
        obtain ⟨k, rfl, hk, HI⟩ := hrel
        obtain ⟨ys, u, hs, hkp⟩ := HI.out
        have HKP := hide hkp
        clear hkp
        obtain ⟨A3, c3, c30, c31, hn3, hrd3, hfew3⟩ := hs.base.view hs.bel HD.out
        by_cases hlt : k < d.es.length
        · obtain ⟨e, he⟩ : ∃ e, d.es[k]? = some e := ⟨_, List.getElem?_eq_getElem hlt⟩
          have hdr : d.es.drop k = e :: d.es.drop (k + 1) := by
            obtain ⟨h1, h2⟩ := List.getElem?_eq_some_iff.1 he
            rw [List.drop_eq_getElem_cons h1, h2]
          have hsg := hs.goal
          have hsl := hs.len
          rw [hdr, List.flatMap_cons] at hsg hsl
          rw [List.map_append] at hsg
          rw [List.length_append] at hsl
          obtain ⟨lab, tg⟩ := e
          obtain ⟨g, hA, hg, k0, k1, k2⟩ := hrd3.at_ he
          have HS3 := hide hs
          have HE := hide he
          have HSG := hide hsg
          have HSL := hide hsl
          -- the slice that the loop holds is the same one
          have hAE : A2 = A3 := by
            obtain ⟨A9, c9, hR9, _, _, _⟩ := HS3.out.base.mem.rd HD.out
            have h1 := ((HS3.out.base.mem.node n d HD.out).below HT.out.bel ((HS3.out.base.mem.node n d HD.out).lt)).cell 0
            have h2 := ((HS3.out.base.mem.node n d HD.out).below HS3.out.bel ((HS3.out.base.mem.node n d HD.out).lt)).cell 0
            rw [c20] at h1
            rw [c30] at h2
            have h3 := Option.some.inj (h1.trans h2.symm)
            injection h3
          subst hAE
          subst hA
          clear hs hrd3 hdr he hsg hsl hfew3 HI
          cases tg with
          | leaf k9 =>
            simp only [pv_some, pv_none, Tg.nodeP, Tg.leafP] at k1 k2
            obtain ⟨m9, hv9⟩ := HS3.out.base.inv.tgL n d _ k9 HD.out (List.mem_of_getElem? HE.out) rfl
            have hk9 := HS3.out.base.leaf (below_alloc_q HS3.out.bel HS3.out.bel.size (.cells #[.string (S lab), .pointer none, .pointer (some ⟨k9, 0, none⟩)] 64) 0) hv9
            have hz := HSG.out
            have hzl := HSL.out
            have e9 : valE s f ⟨lab, .leaf k9⟩ = [k9] := rfl
            rw [e9] at hz hzl
            rw [List.map_cons, List.map_nil] at hz
            have hyl : ys.length ≤ 2147483647 := by omega
            have hyl2 : (ys ++ [val s k9]).length + ((d.es.drop (k + 1)).flatMap (valE s f)).length ≤ 2147483647 := by
              rw [List.length_append]
              simp only [List.length_singleton] at hzl ⊢
              omega
            have HZ := hide hz
            have HYL := hide hyl2
            have HK9 := hide hk9
            clear hz hzl hv9 hk9 e9 hyl2
            go_wp2_with fail
            refine (values_nil lb mb _).mono ?_
            rintro _ w4 ⟨rfl, rfl⟩
            go_wp2_with fail
            refine (visit_anyK w0.heap.size fb off lb mb k9 most (val s k9) _ ys cs u _ (HS3.out.vis.alloc _ 0) HK9.out hyl).mono ?_
            rintro _ w4 ⟨v4, rfl, hv4, hb4, hk4⟩
            have HK4 := hide (HKP.out.trans ((kept_alloc (.cells #[.string (S lab), .pointer none, .pointer (some ⟨k9, 0, none⟩)] 64)).trans hk4))
            clear hk4
            have HV4 := hide hv4
            have HB4 := hide ((below_alloc_q HS3.out.bel HS3.out.bel.size (.cells #[.string (S lab), .pointer none, .pointer (some ⟨k9, 0, none⟩)] 64) 0).trans hb4)
            clear hv4 hb4
            by_cases hq : (ys.length : Int) + 1 = most
            · rw [if_pos hq]
              have hz := HZ.out
              rw [List.singleton_append, vist_hit hq] at hz
              have HZ2 := hide hz
              clear hz hq
              go_wp2
              go_ret
              exact ⟨v4, by rw [HZ2.out]; rfl, by rw [HZ2.out]; exact HV4.out, HB4.out, HK4.out⟩
            · rw [if_neg hq]
              have hz := HZ.out
              rw [List.singleton_append, vist_go hq] at hz
              have HZ2 := hide hz
              clear hz hq
              go_wp2
              go_roundw
              case measure => simp [intOf]; omega
              case rel =>
                refine ⟨k + 1, by go_num, by omega, ?_⟩
                exact (⟨_, _, ⟨HS3.out.base, HB4.out, HV4.out, HZ2.out, HYL.out⟩, HK4.out⟩ : ∃ ys u, PxSt w0 ws _ B root M fb off lb mb s R most (.iface et ep) cs ys ((d.es.drop (k + 1)).flatMap (valE s f)) Z u ∧ Kept fb w _)
          | node b' =>
            simp only [pv_some, pv_none, Tg.nodeP, Tg.leafP] at k1 k2
            obtain ⟨d2, hd2, hd2b⟩ := HS3.out.base.inv.tgN n d _ b' HD.out (List.mem_of_getElem? HE.out) rfl
            have hdep := HS3.out.base.bnd.depth HS3.out.base.inv HD.out (List.mem_of_getElem? HE.out) rfl hd2
            have e9 : valE s f ⟨lab, .node b'⟩ = vals s f b' := rfl
            have hz := HSG.out
            have hzl := HSL.out
            rw [e9] at hz hzl
            obtain ⟨Z2, hZ2⟩ : ∃ Z2, Z2 = vist most ys ((vals s f b').map (val s)) := ⟨_, rfl⟩
            rw [vist_append, ← hZ2] at hz
            have hl2 : Z2.1.length ≤ ys.length + (vals s f b').length := by
              have := vist_len (most := most) (xs := ys) (a := (vals s f b').map (val s))
              rw [← hZ2, List.length_map] at this
              exact this
            have hst2 : PxSt w0 ws ((wr.alloc (.cells #[.string (S lab), .pointer (some ⟨b', 0, none⟩), .pointer none] 64)).drewN 0) B root M fb off lb mb s R most (.iface et ep) cs ys (vals s f b') Z2 u := ⟨HS3.out.base, below_alloc_q HS3.out.bel HS3.out.bel.size _ 0, HS3.out.vis.alloc _ 0, hZ2, by omega⟩
            have hyl2 : Z2.1.length + ((d.es.drop (k + 1)).flatMap (valE s f)).length ≤ 2147483647 := by omega
            have hcall := IH.out b' d2 ys u _ Z2 hd2 (by have := HF.out; omega) hst2
            have HZ := hide hz
            have HYL := hide hyl2
            have HCALL := hide hcall
            have HX0 := hide (Blk.new wr 64 #[.string (S lab), .pointer (some ⟨b', 0, none⟩), .pointer none])
            have HBT : Hid (w0.heap.size ≤ wr.heap.size) := HS3.out.bel.size
            clear hz hzl e9 hZ2 hl2 hst2 hyl2 hcall hd2 hdep
            go_wp2_with fail
            refine HCALL.out.mono ?_
            clear HCALL
            rintro _ w4 ⟨v4, rfl, hv4, hb4, hk4⟩
            have hx4 := hk4 _ _ _ (HX0.out.drewN 0) (by decide) (fun e => by have h1 := HS3.out.vis.fbk.lt; rw [← e] at h1; exact absurd h1 (Nat.lt_irrefl _))
            have x2 : w4.cell? ⟨wr.heap.size, 2, none⟩ = some (.pointer none) := by rw [hx4.cell]; rfl
            have HV4 := hide hv4
            have HB4 := hide hb4
            have HK4 := hide (HKP.out.trans ((kept_alloc (.cells #[.string (S lab), .pointer (some ⟨b', 0, none⟩), .pointer none] 64)).trans hk4))
            clear hv4 hb4 hk4 hx4
            by_cases hq : Z2.2 = true
            · rw [if_pos hq]
              have hz := HZ.out
              rw [if_pos hq] at hz
              have HZ2 := hide hz
              have HQ := hide hq
              clear hz hq
              go_wp2
              go_ret
              exact ⟨v4, by rw [HZ2.out, if_pos HQ.out]; rfl, by rw [HZ2.out]; exact HV4.out, HB4.out, HK4.out⟩
            · rw [if_neg hq]
              have hz := HZ.out
              rw [if_neg hq] at hz
              have HZ2 := hide hz
              clear hz hq
              go_wp2
              go_roundw
              case measure => simp [intOf]; omega
              case rel =>
                refine ⟨k + 1, by go_num, by omega, ?_⟩
                exact (⟨_, _, ⟨HS3.out.base, HB4.out, HV4.out, HZ2.out, HYL.out⟩, HK4.out⟩ : ∃ ys u, PxSt w0 ws _ B root M fb off lb mb s R most (.iface et ep) cs ys ((d.es.drop (k + 1)).flatMap (valE s f)) Z u ∧ Kept fb w _)
        · have : k = d.es.length := by omega
          have hz := hs.goal
          rw [this, List.drop_length] at hz
          have HZ := hide hz
          have HS3 := hide hs
          clear hz hs this HI hrd3
          go_wp2
          go_ret
          exact ⟨u, by rw [HZ.out]; rfl, by rw [HZ.out]; exact HS3.out.vis, HS3.out.bel, HKP.out⟩
end Go.Proofs.YtjekaagjgamfkaaDoor
