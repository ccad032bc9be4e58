/- The walks of Trie.Entries and of the closure in it. Under sizes alone. -/
import Derived.Test.YtjekaagjgamfkaaDoorPx
import Derived.Deep.RegionLaw
import Derived.Deep.Cut
import Derived.Deep.DeepCutAuto
import Derived.Laws.EntriesVeiled
import Derived.Laws.Concat
namespace Go.Proofs.YtjekaagjgamfkaaDoor
open Go.RowKit T

theorem S_append (a b : T.Bs) : S a ++ S b = S (a ++ b) := by
  have h : (S a ++ S b).data = (S (a ++ b)).data := by
    rw [ByteArray.data_append]
    simp [S]
  cases h1 : S a ++ S b
  cases h2 : S (a ++ b)
  rw [h1, h2] at h
  simp only at h
  rw [h]
attribute [local go_sem] S_size S_toList E_toList S_append
theorem info57 : (Tryd.prog.info? 57).map (fun i => (i.zero, i.size, i.bytes)) = some (some (.agg #[.string ⟨#[]⟩, .pointer none]), 2, 24) := by kernel_rfl

/-- The entries of some values, as cells. -/
def enc (s : St) (ks : List Nat) : List Value := ks.flatMap (fun k => [.string (S (key s k)), .pointer (some ⟨k, 0, none⟩)])
theorem enc_append (s : St) (a b : List Nat) : enc s (a ++ b) = enc s a ++ enc s b := by simp [enc]
theorem enc_len (s : St) (a : List Nat) : (enc s a).length = a.length * 2 := by
  induction a with
  | nil => rfl
  | cons k a ih =>
    have : enc s (k :: a) = [.string (S (key s k)), .pointer (some ⟨k, 0, none⟩)] ++ enc s a := rfl
    rw [this, List.length_append, ih]
    simp; omega

def KeptE (eb : Nat) (w w' : World) : Prop := ∀ i t cs, Blk w i t cs → t ≠ 57 → i ≠ eb → Blk w' i t cs
theorem KeptE.trans {fb : Nat} {a b c : World} (h : KeptE fb a b) (k : KeptE fb b c) : KeptE fb a c := fun i t cs h1 h2 h3 => k i t cs (h i t cs h1 h2 h3) h2 h3
theorem KeptE.refl {fb : Nat} {a : World} : KeptE fb a a := fun _ _ _ h _ _ => h
theorem KeptE.alloc {fb : Nat} {w : World} (o : Obj) : KeptE fb w (w.alloc o) := fun _ _ _ h _ _ => h.alloc o

/-- How the list of entries stands. -/
structure EnSt (w0 w : World) (B root M eb cb : Nat) (s : St) (R : Nat → Value) (xs : List Nat) (v : Value) : Prop where
  base : Base w0 B root M s R
  bel : Below w0.heap.size w0 w
  ebk : Blk w eb 54 #[v]
  own : w.ownsRow w0.heap.size 57 2 v xs.length (enc s xs)
  cbk : Blk w cb 67 #[.func (.func 29) #[] #[.pointer (some ⟨eb, 0, none⟩), .pointer (some ⟨cb, 0, none⟩)]]
  le : w0.heap.size ≤ eb
  lc : w0.heap.size ≤ cb

theorem EnSt.later {w0 w w' : World} {B root M eb cb : Nat} {s : St} {R : Nat → Value} {xs : List Nat} {v : Value} (h : EnSt w0 w B root M eb cb s R xs v) (hb : Below w.heap.size w w') : EnSt w0 w' B root M eb cb s R xs v :=
  ⟨h.base, h.bel.trans (hb.mono h.bel.size), h.ebk.below hb h.ebk.lt, own_chg h.own (Chg.ofBelow hb (fun _ => False)) (fun _ _ => id), h.cbk.below hb h.cbk.lt, h.le, h.lc⟩

/-- An append and its store. -/
theorem EnSt.next {w0 w w1 : World} {B root M eb cb k n : Nat} {s : St} {R : Nat → Value} {xs : List Nat} {v v1 : Value} (h : EnSt w0 w B root M eb cb s R xs v) (hc : Chg (fun g => v.ownBlock = some g) w w1) (hn : n = xs.length + 1) (ho : w1.ownsRow w0.heap.size 57 2 v1 n (enc s xs ++ [.string (S (key s k)), .pointer (some ⟨k, 0, none⟩)])) :
    EnSt w0 (w1.setCell ⟨eb, 0, none⟩ v1) B root M eb cb s R (xs ++ [k]) v1 ∧ KeptE eb w (w1.setCell ⟨eb, 0, none⟩ v1) := by
  subst hn
  have hne : ∀ b, (∃ t cs, Blk w b t cs ∧ t ≠ 57) → ¬ v.ownBlock = some b := fun b ⟨t, cs, hb, ht⟩ e => by
    obtain ⟨cs', hcs⟩ := own_blk h.own e
    exact hcs.ne_ hb (Ne.symm ht) rfl
  have heb : Blk w1 eb 54 #[v] := h.ebk.chg hc (hne eb ⟨_, _, h.ebk, by decide⟩)
  have hcb := h.cbk.chg hc (hne cb ⟨_, _, h.cbk, by decide⟩)
  have hof : v1.ownBlock ≠ some eb := fun e => by
    obtain ⟨cs', hcs⟩ := own_blk ho e
    exact hcs.ne_ heb (by decide) rfl
  refine ⟨⟨h.base, ?_, ?_, ?_, hcb.far (p := ⟨eb, 0, none⟩) (fun e => h.cbk.ne_ h.ebk (by decide) e) v1, h.le, h.lc⟩, fun i t cs' h1 h5 h6 => ?_⟩
  · refine Below.setCell (p := ⟨eb, 0, none⟩) ?_ h.le v1
    exact h.bel.trans (hc.below h.bel.size (fun i hi => (h.own.lt i hi).1))
  · have := heb.set_ 0 v1
    simpa using this
  · have e1 : (xs ++ [k]).length = xs.length + 1 := by simp
    rw [e1, enc_append]
    exact ownsRow_setCell_other ho (a := ⟨eb, 0, none⟩) hof v1
  · exact (h1.chg hc (hne i ⟨t, cs', h1, h5⟩)).far (p := ⟨eb, 0, none⟩) h6 v1

def EnOut (w0 : World) (B root M eb cb : Nat) (s : St) (R : Nat → Value) (ys : List Nat) (w : World) (e : Ending) (w' : World) : Prop :=
  e = .returned (.tuple #[]) ∧ (∃ v', EnSt w0 w' B root M eb cb s R ys v') ∧ KeptE eb w w'

set_option linter.unusedSimpArgs false in
set_option linter.unusedVariables false in
set_option maxHeartbeats 4000000 in
set_option maxRecDepth 100000 in
theorem entries1_any (w0 : World) (B root M eb cb : Nat) (s : St) (R : Nat → Value) :
    ∀ (f n : Nat) (d : Nd) (xs : List Nat) (v : Value) (w : World), s.D n = some d → M - d.path.length < f → EnSt w0 w B root M eb cb s R xs v → xs.length + (vals s f n).length ≤ 2147483647 →
    Calls Tryd.prog 29 #[.pointer (some ⟨n, 0, none⟩), .string (S d.path), .pointer (some ⟨eb, 0, none⟩), .pointer (some ⟨cb, 0, none⟩)] w (EnOut w0 B root M eb cb s R (xs ++ vals s f n) w) := by
  intro f
  induction f with
  | zero => intro n d xs v w _ h; omega
  | succ f ih =>
  intro n d xs v w hd hf hst hlen
  have IH := hide ih
  have HD := hide hd
  obtain ⟨A, c, c0, c1, hn, hrd, hfew⟩ := hst.base.view hst.bel hd
  obtain ⟨i0, hi57, hz0, hz1, hz2⟩ := info_parts info57
  have hpl := (hst.base.bnd.node n d hd).1
  have hbig := hst.base.big
  rw [vals_eq hd] at hlen ⊢
  obtain ⟨FULL, hF⟩ : ∃ FULL, FULL = xs ++ (d.child.toList ++ d.es.flatMap (valE s f)) := ⟨_, rfl⟩
  rw [← hF]
  have HFU := hide hF
  have HRD := hide hrd
  have HS := hide hst
  have HLEN := hide hlen
  have HF := hide hf
  have HZ := hide (And.intro hz0 (And.intro hz1 hz2))
  clear ih hd hrd hst hlen hf hz0 hz1 hz2 hF
  go_enter Tryd.func29, Tryd.ntmps29
  cases hch : d.child with
  | none =>
    rw [hch, pv_none] at c1
    have HT : Hid (EnSt w0 w B root M eb cb s R xs v) := HS.out
    have HCH := hide hch
    clear hch
    go_wp2
    go_loopw [27] (fun s27 wr => ∃ k : Nat, s27 = .int .i64 k ∧ k ≤ d.es.length ∧ Hid (∃ ys u, EnSt w0 wr B root M eb cb s R ys u ∧ KeptE eb w wr ∧ ys ++ (d.es.drop k).flatMap (valE s f) = FULL)) (fun s27 _ => d.es.length - (intOf s27).toNat)
    case atStart => exact ⟨0, rfl, Nat.zero_le _, (⟨_, _, HT.out, KeptE.refl, by rw [HFU.out, HCH.out]; rfl⟩ : ∃ ys u, EnSt w0 _ B root M eb cb s R ys u ∧ KeptE eb w _ ∧ ys ++ (d.es.drop 0).flatMap (valE s f) = FULL)⟩
    case round =>
      obtain ⟨k, rfl, hk, HI⟩ := hrel
      obtain ⟨ys, u, hs, hkp, heq⟩ := HI.out
      have HKP := hide hkp
      obtain ⟨A3, c3, c30, c31, hn3, hrd3, hfew3⟩ := hs.base.view hs.bel HD.out
      by_cases hlt : k < d.es.length
      · obtain ⟨e, he⟩ : ∃ e, d.es[k]? = some e := ⟨_, List.getElem?_eq_getElem hlt⟩
        have hdr : d.es.drop k = e :: d.es.drop (k + 1) := by
          obtain ⟨h1, h2⟩ := List.getElem?_eq_some_iff.1 he
          rw [List.drop_eq_getElem_cons h1, h2]
        rw [hdr, List.flatMap_cons, ← List.append_assoc] at heq
        have hll : (ys ++ valE s f e).length + ((d.es.drop (k + 1)).flatMap (valE s f)).length ≤ 2147483647 := by
          rw [← List.length_append, heq, HFU.out, List.length_append]
          exact HLEN.out
        obtain ⟨lab, tg⟩ := e
        obtain ⟨g, hA, hg, k0, k1, k2⟩ := hrd3.at_ he
        have hlp := (hs.base.bnd.lab hs.base.inv HD.out (List.mem_of_getElem? he)).1
        rw [List.length_append] at hlp
        have hlp2 : d.path.length + lab.length ≤ 9223372036854775807 := by
          have h6 : d.path.length + lab.length ≤ M := hlp
          omega
        have HS3 := hide hs
        have HE := hide he
        have HEQ := hide heq
        have HLL := hide hll
        have hAE : A = A3 := by
          have h1 := ((HS3.out.base.mem.node n d HD.out).below HS.out.bel ((HS3.out.base.mem.node n d HD.out).lt)).cell 0
          have h2 := ((HS3.out.base.mem.node n d HD.out).below HS3.out.bel ((HS3.out.base.mem.node n d HD.out).lt)).cell 0
          rw [c0] at h1
          rw [c30] at h2
          have h3 := Option.some.inj (h1.trans h2.symm)
          injection h3
        subst hAE
        subst hA
        clear hs hrd3 hdr he heq hll hfew3 HI hkp hlp
        cases tg with
        | leaf k9 =>
          simp only [pv_some, pv_none, Tg.nodeP, Tg.leafP] at k1 k2
          obtain ⟨m9, hv9⟩ := HS3.out.base.inv.tgL n d _ k9 HD.out (List.mem_of_getElem? HE.out) rfl
          have hk9 : key s k9 = d.path ++ lab := key_of hv9
          have hyl : ys.length ≤ 2147483647 := by
            have := HLL.out
            rw [List.length_append] at this
            omega
          have hst4 := HS3.out.later ((Below.refl wr.heap.size wr).alloc (Nat.le_refl _) (.cells #[.string (S lab), .pointer none, .pointer (some ⟨k9, 0, none⟩)] 64))
          have hst5 := hst4.later ((Below.refl _ _).alloc (Nat.le_refl _) (.cells #[.string (S (d.path ++ lab)), .pointer (some ⟨k9, 0, none⟩)] 57))
          obtain ⟨A5, c5, hv5, hl5, hm5⟩ := own_cap hst5.own
          subst hv5
          have e0 : wr.cell? ⟨eb, 0, none⟩ = some (.slice A5 ys.length c5) := by rw [HS3.out.ebk.cell]; rfl
          have ebl := HS3.out.ebk.lt
          have HK9 := hide hk9
          have HS5 := hide hst5
          have hTs : w0.heap.size ≤ ((wr.alloc (.cells #[.string (S lab), .pointer none, .pointer (some ⟨k9, 0, none⟩)] 64)).alloc (.cells #[.string (S (d.path ++ lab)), .pointer (some ⟨k9, 0, none⟩)] 57)).heap.size := hst5.bel.size
          have HTS := hide hTs
          clear hv9 hk9 hst4 hst5 hTs hl5 hm5
          go_wp2_with
            (at_builtin
             go_must (refine wpList_appendN rfl _ _ 54 rfl w0.heap.size 57 i0 _ 2 24 Tryd.underlying54 hi57 HZ.out.1 HZ.out.2.1 HZ.out.2.2 rfl (by decide) (.slice A5 ys.length c5) rfl ys.length (enc s ys) HS5.out.own HTS.out ⟨wr.heap.size + 1, 0, none⟩ 1 1 [.string (S (d.path ++ lab)), .pointer (some ⟨k9, 0, none⟩)] rfl rfl (news_blk (t := 57) (cs := #[.string (S (d.path ++ lab)), .pointer (some ⟨k9, 0, none⟩)]) (Blk.new_ _ _ _ (by simp))) (by intro q hq; simp at hq; rcases hq with rfl | rfl <;> rfl) (by unfold maxLen; omega) (by omega) ?_)
             intro v6 w6 HO6 HC6 HV6
             obtain ⟨A6, c6, hv6, hl6, hm6⟩ := own_cap HO6.out
             subst hv6
             have hnx := HS5.out.next (k := k9) HC6.out rfl (by rw [HK9.out]; exact HO6.out)
             have hb6 : Blk w6 eb 54 #[.slice A5 ys.length c5] := HS5.out.ebk.chg HC6.out (fun e => by
               obtain ⟨cs', hcs⟩ := own_blk HS5.out.own e
               exact hcs.ne_ HS5.out.ebk (by decide) rfl)
             have e6 : w6.cell? ⟨eb, 0, none⟩ = some (.slice A5 ys.length c5) := by rw [hb6.cell]; rfl
             have g6 := hb6.frozen 0
             have HNX := hide hnx
             clear hnx hb6 hl6 hm6)
          go_wp2
          go_roundw
          case measure => simp [intOf]; omega
          case rel =>
            refine ⟨k + 1, by go_num, by omega, ?_⟩
            exact (⟨_, _, HNX.out.1, HKP.out.trans ((KeptE.alloc _).trans ((KeptE.alloc _).trans HNX.out.2)), HEQ.out⟩ : ∃ ys u, EnSt w0 _ B root M eb cb s R ys u ∧ KeptE eb w _ ∧ ys ++ (d.es.drop (k + 1)).flatMap (valE s f) = FULL)
        | node b' =>
          simp only [pv_some, pv_none, Tg.nodeP, Tg.leafP] at k1 k2
          obtain ⟨d2, hd2, hd2b⟩ := HS3.out.base.inv.tgN n d _ b' HD.out (List.mem_of_getElem? HE.out) rfl
          have hd2c : d2.path = d.path ++ lab := hd2b
          have hdep : M - d2.path.length < f := by
            have h3 := (HS3.out.base.bnd.node b' d2 hd2).1
            have h5 := List.length_pos_iff.2 (HS3.out.base.inv.lab n d _ HD.out (List.mem_of_getElem? HE.out))
            have h7 : 0 < lab.length := h5
            have h8 := HF.out
            rw [hd2c, List.length_append] at h3 ⊢
            omega
          have hst4 := HS3.out.later ((Below.refl wr.heap.size wr).alloc (Nat.le_refl _) (.cells #[.string (S lab), .pointer (some ⟨b', 0, none⟩), .pointer none] 64))
          have hcall := IH.out b' d2 ys u _ hd2 hdep hst4 (by
            have := HLL.out
            rw [List.length_append] at this
            show ys.length + (vals s f b').length ≤ _
            have e9 : valE s f ⟨lab, .node b'⟩ = vals s f b' := rfl
            rw [e9] at this
            omega)
          rw [hd2c] at hcall
          have x0 : wr.cell? ⟨cb, 0, none⟩ = some (.func (.func 29) #[] #[.pointer (some ⟨eb, 0, none⟩), .pointer (some ⟨cb, 0, none⟩)]) := by rw [HS3.out.cbk.cell]; rfl
          have xl := HS3.out.cbk.lt
          have HCALL := hide hcall
          clear hd2 hd2b hd2c hdep hst4 hcall
          go_wp2_with fail
          refine HCALL.out.mono ?_
          clear HCALL
          rintro _ w4 ⟨rfl, ⟨v4, hs4⟩, hk4⟩
          have HS4 := hide hs4
          have HK4 := hide (HKP.out.trans ((KeptE.alloc _).trans hk4))
          clear hs4 hk4
          go_wp2
          go_roundw
          case measure => simp [intOf]; omega
          case rel =>
            refine ⟨k + 1, by go_num, by omega, ?_⟩
            exact (⟨_, _, HS4.out, HK4.out, HEQ.out⟩ : ∃ ys u, EnSt w0 _ B root M eb cb s R ys u ∧ KeptE eb w _ ∧ ys ++ (d.es.drop (k + 1)).flatMap (valE s f) = FULL)
      · have : k = d.es.length := by omega
        rw [this, List.drop_length, List.flatMap_nil, List.append_nil] at heq
        have HEQ := hide heq
        have HS3 := hide hs
        clear hs this HI hrd3 heq hkp
        go_wp2
        go_end0
        exact ⟨rfl, ⟨u, by rw [← HEQ.out]; exact HS3.out⟩, HKP.out⟩
  | some k =>
    rw [hch, pv_some] at c1
    obtain ⟨m8, hv8⟩ := HS.out.base.inv.chi n d k HD.out hch
    have hk8 : key s k = d.path := key_of hv8
    have HK8 := hide hk8
    have HCH := hide hch
    have hyl : xs.length ≤ 2147483647 := by
      have := HLEN.out
      omega
    have hst5 := HS.out.later ((Below.refl w.heap.size w).alloc (Nat.le_refl _) (.cells #[.string (S d.path), .pointer (some ⟨k, 0, none⟩)] 57))
    obtain ⟨A5, c5, hv5, hl5, hm5⟩ := own_cap hst5.own
    subst hv5
    have e0 : w.cell? ⟨eb, 0, none⟩ = some (.slice A5 xs.length c5) := by rw [HS.out.ebk.cell]; rfl
    have ebl := HS.out.ebk.lt
    have HS5 := hide hst5
    have HTS := hide hst5.bel.size
    clear hch hv8 hk8 hst5 hl5 hm5
    go_upto_region 1 with fail
    go_cut [] from 13 to 22 (fun wx => ∃ v', Hid (EnSt w0 wx B root M eb cb s R (xs ++ [k]) v' ∧ KeptE eb w wx))
    case first =>
     go_region_law
      ((first
       | (refine step_appendN (by rfl) (.tmp 13) (.tmp 20) 54 (by rfl) w0.heap.size 57 i0 _ 2 24 Tryd.underlying54 hi57 HZ.out.1 HZ.out.2.1 HZ.out.2.2 rfl (by decide) (.slice A5 xs.length c5) (by rfl) xs.length (enc s xs) HS5.out.own HTS.out ⟨w.heap.size, 0, none⟩ 1 1 [.string (S d.path), .pointer (some ⟨k, 0, none⟩)] (by rfl) rfl (news_blk (t := 57) (cs := #[.string (S d.path), .pointer (some ⟨k, 0, none⟩)]) (Blk.new w _ _)) (by intro q hq; simp at hq; rcases hq with rfl | rfl <;> rfl) (by unfold maxLen; omega) (by omega) ?_
          intro v6 w6 HO6 HC6 HV6
          obtain ⟨A6, c6, hv6, hl6, hm6⟩ := own_cap HO6.out
          subst hv6
          have hC6 : Chg (fun g => (Value.slice A5 xs.length c5).ownBlock = some g) (w.alloc (.cells #[.string (S d.path), .pointer (some ⟨k, 0, none⟩)] 57)) w6 := ((Chg.refl (fun g => (Value.slice A5 xs.length c5).ownBlock = some g) (w.alloc (.cells #[.string (S d.path), .pointer (some ⟨k, 0, none⟩)] 57))).drew).trans HC6.out (fun _ _ h => h)
          have hnx := HS5.out.next (k := k) hC6 rfl (by rw [HK8.out]; exact HO6.out)
          have hb6 : Blk w6 eb 54 #[.slice A5 xs.length c5] := HS5.out.ebk.chg hC6 (fun e => by
            obtain ⟨cs', hcs⟩ := own_blk HS5.out.own e
            exact hcs.ne_ HS5.out.ebk (by decide) rfl)
          have e6 : w6.cell? ⟨eb, 0, none⟩ = some (.slice A5 xs.length c5) := by rw [hb6.cell]; rfl
          have g6 := hb6.frozen 0
          have HNX := hide hnx.1
          have HKN : Hid (KeptE eb w (w6.setCell ⟨eb, 0, none⟩ (.slice A6 (xs.length + 1) c6))) := (KeptE.alloc _).trans hnx.2
          clear hnx hb6 hl6 hm6 hC6)
       | fail))
     all_goals (go_wp2_with fail; go_meet; exact ⟨_, HNX.out, HKN.out⟩)
    case rest =>
      obtain ⟨v2, hcut2⟩ := hcut
      have HT : Hid (EnSt w0 wc B root M eb cb s R (xs ++ [k]) v2) := hcut2.out.1
      have HK2 := hide hcut2.out.2
      obtain ⟨A2, c2, c20, c21, hn2, hrd2, hfew2⟩ := HT.out.base.view HT.out.bel HD.out
      clear c0 c1 hrd2 hfew2 hcut2
      go_wp2
      go_loopw [27] (fun s27 wr => ∃ k : Nat, s27 = .int .i64 k ∧ k ≤ d.es.length ∧ Hid (∃ ys u, EnSt w0 wr B root M eb cb s R ys u ∧ KeptE eb w wr ∧ ys ++ (d.es.drop k).flatMap (valE s f) = FULL)) (fun s27 _ => d.es.length - (intOf s27).toNat)
      case atStart => exact ⟨0, rfl, Nat.zero_le _, (⟨_, _, HT.out, HK2.out, by rw [HFU.out, HCH.out]; simp⟩ : ∃ ys u, EnSt w0 _ B root M eb cb s R ys u ∧ KeptE eb w _ ∧ ys ++ (d.es.drop 0).flatMap (valE s f) = FULL)⟩
      case round =>
        obtain ⟨k, rfl, hk, HI⟩ := hrel
        obtain ⟨ys, u, hs, hkp, heq⟩ := HI.out
        have HKP := hide hkp
        obtain ⟨A3, c3, c30, c31, hn3, hrd3, hfew3⟩ := hs.base.view hs.bel HD.out
        by_cases hlt : k < d.es.length
        · obtain ⟨e, he⟩ : ∃ e, d.es[k]? = some e := ⟨_, List.getElem?_eq_getElem hlt⟩
          have hdr : d.es.drop k = e :: d.es.drop (k + 1) := by
            obtain ⟨h1, h2⟩ := List.getElem?_eq_some_iff.1 he
            rw [List.drop_eq_getElem_cons h1, h2]
          rw [hdr, List.flatMap_cons, ← List.append_assoc] at heq
          have hll : (ys ++ valE s f e).length + ((d.es.drop (k + 1)).flatMap (valE s f)).length ≤ 2147483647 := by
            rw [← List.length_append, heq, HFU.out, List.length_append]
            exact HLEN.out
          obtain ⟨lab, tg⟩ := e
          obtain ⟨g, hA, hg, k0, k1, k2⟩ := hrd3.at_ he
          have hlp := (hs.base.bnd.lab hs.base.inv HD.out (List.mem_of_getElem? he)).1
          rw [List.length_append] at hlp
          have hlp2 : d.path.length + lab.length ≤ 9223372036854775807 := by
            have h6 : d.path.length + lab.length ≤ M := hlp
            omega
          have HS3 := hide hs
          have HE := hide he
          have HEQ := hide heq
          have HLL := hide hll
          have hAE : A2 = A3 := by
            have h1 := ((HS3.out.base.mem.node n d HD.out).below HT.out.bel ((HS3.out.base.mem.node n d HD.out).lt)).cell 0
            have h2 := ((HS3.out.base.mem.node n d HD.out).below HS3.out.bel ((HS3.out.base.mem.node n d HD.out).lt)).cell 0
            rw [c20] at h1
            rw [c30] at h2
            have h3 := Option.some.inj (h1.trans h2.symm)
            injection h3
          subst hAE
          subst hA
          clear hs hrd3 hdr he heq hll hfew3 HI hkp hlp
          cases tg with
          | leaf k9 =>
            simp only [pv_some, pv_none, Tg.nodeP, Tg.leafP] at k1 k2
            obtain ⟨m9, hv9⟩ := HS3.out.base.inv.tgL n d _ k9 HD.out (List.mem_of_getElem? HE.out) rfl
            have hk9 : key s k9 = d.path ++ lab := key_of hv9
            have hyl : ys.length ≤ 2147483647 := by
              have := HLL.out
              rw [List.length_append] at this
              omega
            have hst4 := HS3.out.later ((Below.refl wr.heap.size wr).alloc (Nat.le_refl _) (.cells #[.string (S lab), .pointer none, .pointer (some ⟨k9, 0, none⟩)] 64))
            have hst5 := hst4.later ((Below.refl _ _).alloc (Nat.le_refl _) (.cells #[.string (S (d.path ++ lab)), .pointer (some ⟨k9, 0, none⟩)] 57))
            obtain ⟨A5, c5, hv5, hl5, hm5⟩ := own_cap hst5.own
            subst hv5
            have e0 : wr.cell? ⟨eb, 0, none⟩ = some (.slice A5 ys.length c5) := by rw [HS3.out.ebk.cell]; rfl
            have ebl := HS3.out.ebk.lt
            have HK9 := hide hk9
            have HS5 := hide hst5
            have hTs : w0.heap.size ≤ ((wr.alloc (.cells #[.string (S lab), .pointer none, .pointer (some ⟨k9, 0, none⟩)] 64)).alloc (.cells #[.string (S (d.path ++ lab)), .pointer (some ⟨k9, 0, none⟩)] 57)).heap.size := hst5.bel.size
            have HTS := hide hTs
            clear hv9 hk9 hst4 hst5 hTs hl5 hm5
            go_wp2_with
              (at_builtin
               go_must (refine wpList_appendN rfl _ _ 54 rfl w0.heap.size 57 i0 _ 2 24 Tryd.underlying54 hi57 HZ.out.1 HZ.out.2.1 HZ.out.2.2 rfl (by decide) (.slice A5 ys.length c5) rfl ys.length (enc s ys) HS5.out.own HTS.out ⟨wr.heap.size + 1, 0, none⟩ 1 1 [.string (S (d.path ++ lab)), .pointer (some ⟨k9, 0, none⟩)] rfl rfl (news_blk (t := 57) (cs := #[.string (S (d.path ++ lab)), .pointer (some ⟨k9, 0, none⟩)]) (Blk.new_ _ _ _ (by simp))) (by intro q hq; simp at hq; rcases hq with rfl | rfl <;> rfl) (by unfold maxLen; omega) (by omega) ?_)
               intro v6 w6 HO6 HC6 HV6
               obtain ⟨A6, c6, hv6, hl6, hm6⟩ := own_cap HO6.out
               subst hv6
               have hnx := HS5.out.next (k := k9) HC6.out rfl (by rw [HK9.out]; exact HO6.out)
               have hb6 : Blk w6 eb 54 #[.slice A5 ys.length c5] := HS5.out.ebk.chg HC6.out (fun e => by
                 obtain ⟨cs', hcs⟩ := own_blk HS5.out.own e
                 exact hcs.ne_ HS5.out.ebk (by decide) rfl)
               have e6 : w6.cell? ⟨eb, 0, none⟩ = some (.slice A5 ys.length c5) := by rw [hb6.cell]; rfl
               have g6 := hb6.frozen 0
               have HNX := hide hnx
               clear hnx hb6 hl6 hm6)
            go_wp2
            go_roundw
            case measure => simp [intOf]; omega
            case rel =>
              refine ⟨k + 1, by go_num, by omega, ?_⟩
              exact (⟨_, _, HNX.out.1, HKP.out.trans ((KeptE.alloc _).trans ((KeptE.alloc _).trans HNX.out.2)), HEQ.out⟩ : ∃ ys u, EnSt w0 _ B root M eb cb s R ys u ∧ KeptE eb w _ ∧ ys ++ (d.es.drop (k + 1)).flatMap (valE s f) = FULL)
          | node b' =>
            simp only [pv_some, pv_none, Tg.nodeP, Tg.leafP] at k1 k2
            obtain ⟨d2, hd2, hd2b⟩ := HS3.out.base.inv.tgN n d _ b' HD.out (List.mem_of_getElem? HE.out) rfl
            have hd2c : d2.path = d.path ++ lab := hd2b
            have hdep : M - d2.path.length < f := by
              have h3 := (HS3.out.base.bnd.node b' d2 hd2).1
              have h5 := List.length_pos_iff.2 (HS3.out.base.inv.lab n d _ HD.out (List.mem_of_getElem? HE.out))
              have h7 : 0 < lab.length := h5
              have h8 := HF.out
              rw [hd2c, List.length_append] at h3 ⊢
              omega
            have hst4 := HS3.out.later ((Below.refl wr.heap.size wr).alloc (Nat.le_refl _) (.cells #[.string (S lab), .pointer (some ⟨b', 0, none⟩), .pointer none] 64))
            have hcall := IH.out b' d2 ys u _ hd2 hdep hst4 (by
              have := HLL.out
              rw [List.length_append] at this
              show ys.length + (vals s f b').length ≤ _
              have e9 : valE s f ⟨lab, .node b'⟩ = vals s f b' := rfl
              rw [e9] at this
              omega)
            rw [hd2c] at hcall
            have x0 : wr.cell? ⟨cb, 0, none⟩ = some (.func (.func 29) #[] #[.pointer (some ⟨eb, 0, none⟩), .pointer (some ⟨cb, 0, none⟩)]) := by rw [HS3.out.cbk.cell]; rfl
            have xl := HS3.out.cbk.lt
            have HCALL := hide hcall
            clear hd2 hd2b hd2c hdep hst4 hcall
            go_wp2_with fail
            refine HCALL.out.mono ?_
            clear HCALL
            rintro _ w4 ⟨rfl, ⟨v4, hs4⟩, hk4⟩
            have HS4 := hide hs4
            have HK4 := hide (HKP.out.trans ((KeptE.alloc _).trans hk4))
            clear hs4 hk4
            go_wp2
            go_roundw
            case measure => simp [intOf]; omega
            case rel =>
              refine ⟨k + 1, by go_num, by omega, ?_⟩
              exact (⟨_, _, HS4.out, HK4.out, HEQ.out⟩ : ∃ ys u, EnSt w0 _ B root M eb cb s R ys u ∧ KeptE eb w _ ∧ ys ++ (d.es.drop (k + 1)).flatMap (valE s f) = FULL)
        · have : k = d.es.length := by omega
          rw [this, List.drop_length, List.flatMap_nil, List.append_nil] at heq
          have HEQ := hide heq
          have HS3 := hide hs
          clear hs this HI hrd3 heq hkp
          go_wp2
          go_end0
          exact ⟨rfl, ⟨u, by rw [← HEQ.out]; exact HS3.out⟩, HKP.out⟩
end Go.Proofs.YtjekaagjgamfkaaDoor
