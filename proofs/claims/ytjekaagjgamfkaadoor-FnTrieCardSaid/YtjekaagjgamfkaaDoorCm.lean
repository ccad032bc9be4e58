/- The walk of Trie.Compact. Under sizes alone. -/
import Derived.Test.YtjekaagjgamfkaaDoorIn
import Derived.Laws.MakeOwn
import Derived.BigQuiet
namespace Go.Proofs.YtjekaagjgamfkaaDoor
open Go.RowKit T
attribute [local go_sem] S_size S_toList E_toList

/-- What Compact leaves: the same trie, in other rows; those of the nodes that do not lie below are as they were. -/
def CmOut (B : Nat) (s : St) (R : Nat → Value) (p : T.Bs) (w : World) (e : Ending) (w' : World) : Prop :=
  e = .returned (.tuple #[]) ∧ ∃ R', Mem w' B s R' ∧ Below B w w' ∧ ∀ x dx, s.D x = some dx → ¬ p <+: dx.path → R' x = R x

theorem compact_nil (w : World) : Calls Tryd.prog 15 #[.pointer none] w fun e w' => e = .returned (.tuple #[]) ∧ w = w' := by
  go_enter Tryd.func15, Tryd.ntmps15
  go_wp2
  refine bodyPost_ret (results_none rfl _ _ _) rfl ?_
  exact ⟨rfl, rfl⟩

theorem run_make_rowN {P : Program} (t e : TypeId) (i : TypeInfo) (z : Value) (ht : P.underlying t = some (.slice e)) (hi : P.info? e = some i) (hz : i.zero = some z)
    (kl kc : IntKind) (n c : Nat) (hnc : n ≤ c) (hbytes : i.bytes * c ≤ 281474976710656) (h63 : c ≤ 9223372036854775807) (w : World) :
    (Instr.makeSlice t (.int kl (n : Int)) (.int kc (c : Int))).run P w = .ok (.slice (some ⟨w.heap.size, 0, none⟩) n c) (w.alloc (.cells (madeCells z.cells (c * i.size)) e)) := by
  have hb : (i.bytes : Int) * (c : Int) ≤ 281474976710656 := by
    have h : ((i.bytes * c : Nat) : Int) ≤ 281474976710656 := by omega
    rwa [Int.natCast_mul] at h
  have hr := run_make (P := P) w t e i z ht hi hz kl kc n c (by omega) (by omega) hb (by omega)
  simp only [Int.toNat_natCast] at hr
  exact hr

theorem Mem.view {w : World} {B n : Nat} {s : St} {R : Nat → Value} {d : Nd} (h : Mem w B s R) (hd : s.D n = some d) :
    ∃ A c, R n = .slice A d.es.length c ∧ d.es.length ≤ c ∧ (A = none → c = 0) ∧ w.cell? ⟨n, 0, none⟩ = some (.slice A d.es.length c) ∧ w.frozen? ⟨n, 0, none⟩ = false ∧ n < w.heap.size ∧ RdE w A d.es := by
  obtain ⟨A, c, hR, h1, h2, hrd⟩ := h.rd hd
  have hn := h.node n d hd
  refine ⟨A, c, hR, h1, ?_, by rw [hn.cell, ← hR]; rfl, hn.frozen 0, hn.lt, hrd⟩
  rintro rfl
  rcases (h.row n d hd).2 with ⟨e, _⟩ | ⟨g, cap, cur, e, _⟩
  · rw [hR] at e; injection e
  · rw [hR] at e; injection e with e; cases e

theorem upd_self {s : St} {n : Nat} {d : Nd} (h : s.D n = some d) : (⟨T.upd s.D n d, s.V⟩ : St) = s := by
  have : T.upd s.D n d = s.D := by
    funext x
    unfold T.upd
    split
    · rename_i e; rw [e, h]
    · rfl
  rw [this]
/-- A node's row is laid anew. -/
theorem Mem.swap {w w2 : World} {B n : Nat} {s : St} {R : Nat → Value} {d : Nd} {v' : Value} (h : Mem w B s R) (hd : s.D n = some d) (hc : Chg (fun i => i = w.heap.size) w w2) (hrow : w2.ownsRow B 64 3 v' d.es.length (edf d.es)) (hv : v'.ownBlock = some w.heap.size) {v0 : Value} (hn2 : Blk w2 n 44 #[v0, pv d.child]) :
    Mem (w2.setCell ⟨n, 0, none⟩ v') B s (fun x => if x = n then v' else R x) := by
  have hnl := (h.node n d hd).lt
  have hc2 : Chg (fun g => g = n ∨ (R n).ownBlock = some g) w (w2.setCell ⟨n, 0, none⟩ v') := (hc.mono (T := fun g => g = n ∨ (R n).ownBlock = some g) (fun i hi e => by omega)).setCell (p := ⟨n, 0, none⟩) (fun _ => Or.inl rfl) v'
  have hb : Blk (w2.setCell ⟨n, 0, none⟩ v') n 44 #[v', pv d.child] := hn2.set_ 0 v'
  have hr := ownsRow_setCell_other hrow (a := ⟨n, 0, none⟩) (by rw [hv]; simp; omega) v'
  have := h.change (d' := d) hd hc2 hb hr (Or.inr ⟨_, hv, Nat.le_refl _⟩)
  rw [upd_self hd] at this
  exact this

theorem pre_longer {p l : T.Bs} (hl : l ≠ []) : ¬ p ++ l <+: p := fun h => hl (pre_self h)

set_option linter.unusedSimpArgs false in
set_option linter.unusedVariables false in
set_option maxHeartbeats 4000000 in
set_option maxRecDepth 100000 in
theorem compact_any (B root M : Nat) (s : St) (hv : Inv s root) (hbd : Bnd s M) :
    ∀ (f n : Nat) (d : Nd) (R : Nat → Value) (w : World), s.D n = some d → M - d.path.length < f → Mem w B s R → B ≤ w.heap.size →
    Calls Tryd.prog 15 #[.pointer (some ⟨n, 0, none⟩)] w (CmOut B s R d.path w) := by
  have HV := hide hv
  have HBD := hide hbd
  clear hv hbd
  intro f
  induction f with
  | zero => intro n d R w _ h; omega
  | succ f ih =>
  intro n d R w hd hf hm hBw
  have IH := hide ih
  have HD := hide hd
  obtain ⟨A, c, hR, hlc, hnil, c0, f0, hn, hrd⟩ := hm.view hd
  have hfew := HV.out.few hd
  have HF := hide hf
  have HM := hide hm
  have HR := hide hR
  have HRD := hide hrd
  clear ih hd hf hm hR hrd
  go_enter Tryd.func15, Tryd.ntmps15
  by_cases hcap : d.es.length < c
  · have hd1 : decide (d.es.length < c) = true := decide_eq_true hcap
    obtain ⟨g, rfl⟩ : ∃ g, A = some ⟨g, 0, none⟩ := by
      rcases (HM.out.row n d HD.out).2 with ⟨e, _⟩ | ⟨g, cap, cur, e, _⟩
      · rw [HR.out] at e; injection e with _ _ e3; omega
      · rw [HR.out] at e; injection e with e; exact ⟨g, e⟩
    have hown := HM.out.row n d HD.out
    rw [HR.out] at hown
    obtain ⟨i0, hi64, hz0, hz1, hz2⟩ := info_parts info64
    obtain ⟨cur, hg, hBg, hc1, hc2, hcs, hct⟩ := own_parts hown
    obtain ⟨rv, hrv⟩ : ∃ rv : Value, rv = .slice (some ⟨w.heap.size, 0, none⟩) d.es.length d.es.length := ⟨_, rfl⟩
    have HRV := hide hrv
    obtain ⟨ROW, hROW⟩ : ∃ ROW, ROW = madeCells (Value.agg #[.string ⟨#[]⟩, .pointer none, .pointer none]).cells (d.es.length * 3) := ⟨_, rfl⟩
    have hRl : ROW.size = d.es.length * 3 := by rw [hROW]; exact size_madeCells _ _
    have hmk : ∀ q : Nat, (Instr.makeSlice 41 (.int .i64 (d.es.length : Int)) (.int .i64 (d.es.length : Int))).run Tryd.prog (w.drewN q) = .ok (.slice (some ⟨w.heap.size, 0, none⟩) d.es.length d.es.length) ((w.alloc (.cells ROW 64)).drewN q) := fun q => by
      rw [run_make_rowN (P := Tryd.prog) 41 64 i0 _ Tryd.underlying41 hi64 hz0 .i64 .i64 d.es.length d.es.length (Nat.le_refl _) (by rw [hz2]; omega) (by omega) (w.drewN q), hz1, hROW]
      rfl
    have HG := hide hg
    have HCT := hide hct
    have HCS := hide hcs
    have HRL := hide hRl
    have hgl := hg.lt
    have hgn : ¬ g = w.heap.size := by omega
    clear hown hg hct hcs hc2 hrv hROW hRl hz0 hz1 hz2 hi64 i0 hcap
    go_wp2
    go_quiet (fail)
    have hN : ∀ q, Blk ((w.alloc (.cells ROW 64)).drewN q) w.heap.size 64 ROW := fun q => (Blk.new w 64 ROW).drewN q
    have hsrc : ∀ q, ∀ j v, (edf d.es)[j]? = some v → ((w.alloc (.cells ROW 64)).drewN q).cell? ((⟨g, 0, none⟩ : Addr).add j) = some v := by
      intro q j v hj
      have hjl := (List.getElem?_eq_some_iff.1 hj).1
      rw [edf_len] at hjl
      rw [← HCT.out, List.getElem?_take, if_pos (by omega), Array.getElem?_toList] at hj
      rw [add_plain, Nat.zero_add]
      exact (((HG.out.alloc (.cells ROW 64)).drewN q).cell _).trans hj
    have hm1 : (edf d.es).length = Nat.min d.es.length d.es.length * 3 := by rw [edf_len, show Nat.min d.es.length d.es.length = d.es.length from Nat.min_self _]
    have hm2 : 0 + (edf d.es).length ≤ ROW.size := by rw [edf_len, HRL.out]; omega
    have HN := hide hN
    have HSRC := hide hsrc
    have HM1 := hide hm1
    have HM2' := hide hm2
    clear hN hsrc hm1 hm2
    go_wp2_with
      ((with_reducible refine wpList_copy3 (o := ⟨some 29, _, _, _, _, _⟩) ?_ (.tmp 24) (.tmp 28) ?_ w.heap.size 0 d.es.length d.es.length ⟨g, 0, none⟩ d.es.length c ?_ ?_ ROW 64 (edf d.es) (HN.out _) HM1.out (HSRC.out _) HM2'.out (edf_one _) ?_)
       · rfl
       · rfl
       · rfl
       · rfl
       intro w2 HG2 HC2 hs2
       have hC2 : Chg (fun i => i = w.heap.size) w w2 := (((Chg.refl (fun i => i = w.heap.size) w).alloc (.cells ROW 64)).drewN nq).trans HC2.out (fun _ _ h => h)
       have hrow2 : w2.ownsRow B 64 3 (.slice (some ⟨w.heap.size, 0, none⟩) d.es.length d.es.length) d.es.length (edf d.es) := by
         refine own_mk (cur := splice ROW.toList 0 (edf d.es)) HG2.out hBw (Nat.le_refl _) (by unfold maxLen; omega) ?_ rfl ?_
         · rw [length_splice _ _ _ (by rw [Array.length_toList]; exact HM2'.out), Array.length_toList, HRL.out]
         · unfold splice
           rw [List.take_zero, List.nil_append]
           exact List.take_left' (by rw [edf_len])
       have hn2 : Blk w2 n 44 #[.slice (some ⟨g, 0, none⟩) d.es.length c, pv d.child] := HR.out ▸ (HM.out.node n d HD.out).chg hC2 (by show ¬ n = _; omega)
       have c2 : w2.cell? ⟨n, 0, none⟩ = some (.slice (some ⟨g, 0, none⟩) d.es.length c) := by rw [hn2.cell]; rfl
       have f2 := hn2.frozen 0
       have HC3 := hide hC2
       have HROW2 := hide hrow2
       have HN2 := hide hn2
       clear hC2 hrow2 hn2)
    have hm3 := HM.out.swap HD.out HC3.out HROW2.out rfl HN2.out
    have hb3 : Below B w (w2.setCell ⟨n, 0, none⟩ (.slice (some ⟨w.heap.size, 0, none⟩) d.es.length d.es.length)) := Below.setCell (p := ⟨n, 0, none⟩) (HC3.out.below hBw (fun i hi => by omega)) (HM.out.nb n d HD.out) _
    have hs3 : B ≤ (w2.setCell ⟨n, 0, none⟩ (.slice (some ⟨w.heap.size, 0, none⟩) d.es.length d.es.length)).heap.size := Nat.le_trans hBw hb3.size
    have ATS : ∃ R', Mem (w2.setCell ⟨n, 0, none⟩ (.slice (some ⟨w.heap.size, 0, none⟩) d.es.length d.es.length)) B s R' ∧ Below B w (w2.setCell ⟨n, 0, none⟩ (.slice (some ⟨w.heap.size, 0, none⟩) d.es.length d.es.length)) ∧ R' n = rv ∧ ∀ x dx, s.D x = some dx → ¬ d.path <+: dx.path → R' x = R x := by
      refine ⟨_, hm3, hb3, ?_, fun x dx h1 h2 => ?_⟩
      · rw [HRV.out]; exact if_pos rfl
      · have hxn : x ≠ n := fun e => h2 (by rw [e, HD.out] at h1; cases h1; exact List.prefix_refl _)
        exact if_neg hxn
    have HATS := hide ATS
    have HS3 := hide hs3
    clear hm3 hb3 hs3 ATS
    go_wp2
    go_loopw [39] (fun s39 wr => ∃ k : Nat, s39 = .int .i64 k ∧ k ≤ d.es.length ∧ B ≤ wr.heap.size ∧ Hid (∃ R', Mem wr B s R' ∧ Below B w wr ∧ R' n = rv ∧ ∀ x dx, s.D x = some dx → ¬ d.path <+: dx.path → R' x = R x)) (fun s39 _ => d.es.length - (intOf s39).toNat)
    case atStart => exact ⟨0, rfl, Nat.zero_le _, HS3.out, HATS.out⟩
    case round =>
      obtain ⟨k, rfl, hk, hBr, HI⟩ := hrel
      obtain ⟨R2, hm2, hb2, hr2, hx2⟩ := HI.out
      by_cases hlt : k < d.es.length
      · obtain ⟨e, he⟩ : ∃ e, d.es[k]? = some e := ⟨_, List.getElem?_eq_getElem hlt⟩
        obtain ⟨lab, tg⟩ := e
        obtain ⟨A3, c3, hR3, _, _, _, _, _, hrd3⟩ := hm2.view HD.out
        have hAE : A3 = some ⟨w.heap.size, 0, none⟩ := by
          rw [hr2, HRV.out] at hR3
          injection hR3 with e1
          exact e1.symm
        subst hAE
        obtain ⟨gg, hA, hg, k0, k1, k2⟩ := hrd3 k _ he
        have hgN : w.heap.size = gg := by injection hA with hA; injection hA
        subst hgN
        have HE := hide he
        have HM2 := hide hm2
        have HB2 := hide hb2
        have HR2 := hide hr2
        have HX2 := hide hx2
        clear he hm2 hb2 hr2 hx2 hrd3 HI hR3
        cases tg with
        | leaf k9 =>
          simp only [pv_some, pv_none, Tg.nodeP, Tg.leafP] at k1 k2
          have k0' : wr.cell? ⟨w.heap.size, k * 3, none⟩ = some (.string (S lab)) := k0
          clear k0
          go_wp2_with fail
          refine (compact_nil _).mono ?_
          rintro _ w4 ⟨rfl, rfl⟩
          go_wp2
          go_roundw
          case measure => simp [intOf]; omega
          case rel =>
            refine ⟨k + 1, by go_num, by omega, by simp; omega, ?_⟩
            exact (⟨R2, HM2.out.below ((Below.refl _ _).alloc (Nat.le_refl _) _), HB2.out.alloc hBr _, HR2.out, HX2.out⟩ : ∃ R', Mem _ B s R' ∧ Below B w _ ∧ R' n = rv ∧ ∀ x dx, s.D x = some dx → ¬ d.path <+: dx.path → R' x = R x)
        | node b' =>
          simp only [pv_some, pv_none, Tg.nodeP, Tg.leafP] at k1 k2
          have k0' : wr.cell? ⟨w.heap.size, k * 3, none⟩ = some (.string (S lab)) := k0
          clear k0
          obtain ⟨d2, hd2, hd2b⟩ := HV.out.tgN n d _ b' HD.out (List.mem_of_getElem? HE.out) rfl
          have hd2c : d2.path = d.path ++ lab := hd2b
          have hll : lab ≠ [] := HV.out.lab n d _ HD.out (List.mem_of_getElem? HE.out)
          have hdep : M - d2.path.length < f := by
            have h3 := (HBD.out.node b' d2 hd2).1
            have h5 := List.length_pos_iff.2 hll
            have h8 := HF.out
            rw [hd2c, List.length_append] at h3 ⊢
            omega
          have hcall := IH.out b' d2 R2 (wr.alloc (.cells #[.string (S lab), .pointer (some ⟨b', 0, none⟩), .pointer none] 64)) hd2 hdep (HM2.out.below ((Below.refl _ _).alloc (Nat.le_refl _) _)) (by simp; omega)
          have HCALL := hide hcall
          have HD2 := hide hd2c
          have HLL := hide hll
          clear hd2 hd2b hd2c hdep hcall hll
          go_wp2_with fail
          refine HCALL.out.mono ?_
          clear HCALL
          rintro _ w4 ⟨rfl, R4, hm4, hb4, hx4⟩
          have HM4 := hide hm4
          have HB4 := hide ((HB2.out.alloc hBr (.cells #[.string (S lab), .pointer (some ⟨b', 0, none⟩), .pointer none] 64)).trans hb4)
          have hn4 : R4 n = rv := (hx4 n d HD.out (by rw [HD2.out]; exact pre_longer HLL.out)).trans HR2.out
          have hX4 : ∀ x dx, s.D x = some dx → ¬ d.path <+: dx.path → R4 x = R x := fun x dx h1 h2 => (hx4 x dx h1 (fun h3 => h2 ((List.prefix_append d.path lab).trans (HD2.out ▸ h3)))).trans (HX2.out x dx h1 h2)
          have HN4 := hide hn4
          have HX4 := hide hX4
          have hB4 : B ≤ w4.heap.size := by
            have := hb4.size
            simp at this
            omega
          clear hm4 hb4 hx4 hn4 hX4
          go_wp2
          go_roundw
          case measure => simp [intOf]; omega
          case rel =>
            refine ⟨k + 1, by go_num, by omega, hB4, ?_⟩
            exact (⟨R4, HM4.out, HB4.out, HN4.out, HX4.out⟩ : ∃ R', Mem _ B s R' ∧ Below B w _ ∧ R' n = rv ∧ ∀ x dx, s.D x = some dx → ¬ d.path <+: dx.path → R' x = R x)
      · have HM2 := hide hm2
        have HB2 := hide hb2
        have HX2 := hide hx2
        clear hm2 hb2 hr2 hx2 HI
        go_wp2
        go_end0
        exact ⟨rfl, R2, HM2.out, HB2.out, HX2.out⟩
  · have hd1 : decide (d.es.length < c) = false := decide_eq_false hcap
    clear hcap
    obtain ⟨rv, hrv⟩ : ∃ rv : Value, rv = .slice A d.es.length c := ⟨_, rfl⟩
    have HRV := hide hrv
    clear hrv
    go_wp2
    go_quiet (fail)
    go_wp2
    go_loopw [39] (fun s39 wr => ∃ k : Nat, s39 = .int .i64 k ∧ k ≤ d.es.length ∧ B ≤ wr.heap.size ∧ Hid (∃ R', Mem wr B s R' ∧ Below B w wr ∧ R' n = rv ∧ ∀ x dx, s.D x = some dx → ¬ d.path <+: dx.path → R' x = R x)) (fun s39 _ => d.es.length - (intOf s39).toNat)
    case atStart => exact ⟨0, rfl, Nat.zero_le _, hBw, (⟨R, HM.out.below (Chg.drewN (Chg.refl (fun _ => False) w) _).toBelow, ((Chg.refl (fun _ => False) w).drewN _).below hBw (fun _ h => h.elim), HR.out.trans HRV.out.symm, fun _ _ _ _ => rfl⟩ : ∃ R', Mem _ B s R' ∧ Below B w _ ∧ R' n = rv ∧ ∀ x dx, s.D x = some dx → ¬ d.path <+: dx.path → R' x = R x)⟩
    case round =>
      obtain ⟨k, rfl, hk, hBr, HI⟩ := hrel
      obtain ⟨R2, hm2, hb2, hr2, hx2⟩ := HI.out
      by_cases hlt : k < d.es.length
      · obtain ⟨e, he⟩ : ∃ e, d.es[k]? = some e := ⟨_, List.getElem?_eq_getElem hlt⟩
        obtain ⟨lab, tg⟩ := e
        obtain ⟨A3, c3, hR3, _, _, _, _, _, hrd3⟩ := hm2.view HD.out
        have hAE : A3 = A := by
          rw [hr2, HRV.out] at hR3
          injection hR3 with e1
          exact e1.symm
        subst hAE
        obtain ⟨gg, hA, hg, k0, k1, k2⟩ := hrd3 k _ he
        subst hA
        have HE := hide he
        have HM2 := hide hm2
        have HB2 := hide hb2
        have HR2 := hide hr2
        have HX2 := hide hx2
        clear he hm2 hb2 hr2 hx2 hrd3 HI hR3
        cases tg with
        | leaf k9 =>
          simp only [pv_some, pv_none, Tg.nodeP, Tg.leafP] at k1 k2
          have k0' : wr.cell? ⟨gg, k * 3, none⟩ = some (.string (S lab)) := k0
          clear k0
          go_wp2_with fail
          refine (compact_nil _).mono ?_
          rintro _ w4 ⟨rfl, rfl⟩
          go_wp2
          go_roundw
          case measure => simp [intOf]; omega
          case rel =>
            refine ⟨k + 1, by go_num, by omega, by simp; omega, ?_⟩
            exact (⟨R2, HM2.out.below ((Below.refl _ _).alloc (Nat.le_refl _) _), HB2.out.alloc hBr _, HR2.out, HX2.out⟩ : ∃ R', Mem _ B s R' ∧ Below B w _ ∧ R' n = rv ∧ ∀ x dx, s.D x = some dx → ¬ d.path <+: dx.path → R' x = R x)
        | node b' =>
          simp only [pv_some, pv_none, Tg.nodeP, Tg.leafP] at k1 k2
          have k0' : wr.cell? ⟨gg, k * 3, none⟩ = some (.string (S lab)) := k0
          clear k0
          obtain ⟨d2, hd2, hd2b⟩ := HV.out.tgN n d _ b' HD.out (List.mem_of_getElem? HE.out) rfl
          have hd2c : d2.path = d.path ++ lab := hd2b
          have hll : lab ≠ [] := HV.out.lab n d _ HD.out (List.mem_of_getElem? HE.out)
          have hdep : M - d2.path.length < f := by
            have h3 := (HBD.out.node b' d2 hd2).1
            have h5 := List.length_pos_iff.2 hll
            have h8 := HF.out
            rw [hd2c, List.length_append] at h3 ⊢
            omega
          have hcall := IH.out b' d2 R2 (wr.alloc (.cells #[.string (S lab), .pointer (some ⟨b', 0, none⟩), .pointer none] 64)) hd2 hdep (HM2.out.below ((Below.refl _ _).alloc (Nat.le_refl _) _)) (by simp; omega)
          have HCALL := hide hcall
          have HD2 := hide hd2c
          have HLL := hide hll
          clear hd2 hd2b hd2c hdep hcall hll
          go_wp2_with fail
          refine HCALL.out.mono ?_
          clear HCALL
          rintro _ w4 ⟨rfl, R4, hm4, hb4, hx4⟩
          have HM4 := hide hm4
          have HB4 := hide ((HB2.out.alloc hBr (.cells #[.string (S lab), .pointer (some ⟨b', 0, none⟩), .pointer none] 64)).trans hb4)
          have hn4 : R4 n = rv := (hx4 n d HD.out (by rw [HD2.out]; exact pre_longer HLL.out)).trans HR2.out
          have hX4 : ∀ x dx, s.D x = some dx → ¬ d.path <+: dx.path → R4 x = R x := fun x dx h1 h2 => (hx4 x dx h1 (fun h3 => h2 ((List.prefix_append d.path lab).trans (HD2.out ▸ h3)))).trans (HX2.out x dx h1 h2)
          have HN4 := hide hn4
          have HX4 := hide hX4
          have hB4 : B ≤ w4.heap.size := by
            have := hb4.size
            simp at this
            omega
          clear hm4 hb4 hx4 hn4 hX4
          go_wp2
          go_roundw
          case measure => simp [intOf]; omega
          case rel =>
            refine ⟨k + 1, by go_num, by omega, hB4, ?_⟩
            exact (⟨R4, HM4.out, HB4.out, HN4.out, HX4.out⟩ : ∃ R', Mem _ B s R' ∧ Below B w _ ∧ R' n = rv ∧ ∀ x dx, s.D x = some dx → ¬ d.path <+: dx.path → R' x = R x)
      · have HM2 := hide hm2
        have HB2 := hide hb2
        have HX2 := hide hx2
        clear hm2 hb2 hr2 hx2 HI
        go_wp2
        go_end0
        exact ⟨rfl, R2, HM2.out, HB2.out, HX2.out⟩
end Go.Proofs.YtjekaagjgamfkaaDoor
