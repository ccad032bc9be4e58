/- The walk of a hash map's Iter, whatever it is handed. No condition but what the visit asks. -/
import Derived.Test.YtammpllfmbmdmaaHm4
import Derived.Deep.RegionHeld3
namespace Go.Proofs.Ytammpllfmbmdmaa
open Go.RowKit
open Go.ChangeMaps (setBlock)

/-- A visit: a closure, what it keeps in memory (in the blocks K; those of N it only reads), and at which pairs it stops. -/
structure Vis where
  id : Nat
  caps : Array Value
  N : Nat → Prop
  J : World → List (Int × Int) → (Nat → Prop) → Prop
  stop : Int × Int → Bool
  keep : ∀ {w w' : World} {S : List (Int × Int)} {K X : Nat → Prop}, J w S K → Chg X w w' → (∀ i, K i ∨ N i → ¬ X i) → J w' S K
  lt : ∀ {w : World} {S : List (Int × Int)} {K : Nat → Prop}, J w S K → ∀ i, K i ∨ N i → i < w.heap.size
  enters : ∀ (args : Array Value) (w : World), (callFunc id args).run Try.prog w = .ok (.enter id args) w

/-- What a visit hands back. -/
def Vis.Out (V : Vis) (S : List (Int × Int)) (q : Int × Int) (K : Nat → Prop) (w : World) (e : Ending) (w' : World) : Prop :=
  e = .returned (.bool (V.stop q)) ∧ ∃ K', V.J w' (S ++ [q]) K' ∧ (∀ i, K' i → K i ∨ w.heap.size ≤ i) ∧ Chg K w w'

/-- A visit does what it says, at the pairs of l, in whatever order. -/
def Vis.Ok (V : Vis) (l : List (Int × Int)) (w0 : World) (K0 : Nat → Prop) : Prop :=
  ∀ (S : List (Int × Int)) (q : Int × Int) (K : Nat → Prop) (w : World), (S ++ [q]).Nodup → (∀ p ∈ S ++ [q], p ∈ l) → Chg K0 w0 w → (∀ i, K i → K0 i ∨ w0.heap.size ≤ i) → V.J w S K →
    Calls Try.prog V.id (#[.int .i64 q.1, .int .i64 q.2] ++ V.caps) w (V.Out S q K w)

/-- What Iter hands back. -/
def Iterd (V : Vis) (l : List (Int × Int)) (K : Nat → Prop) (w : World) (e : Ending) (w' : World) : Prop :=
  e = .returned (.bool (l.any V.stop)) ∧ Chg K w w' ∧ (l.any V.stop = false → ∃ S K', S.Perm l ∧ V.J w' S K' ∧ ∀ i, K' i → K i ∨ w.heap.size ≤ i)

/-- The pairs of the buckets T. -/
def inT (md : Int) (T : List Int) (q : Int × Int) : Bool := T.contains (hs md q.1)

theorem nodup_pairs {l : List (Int × Int)} (h : (l.map (·.1)).Nodup) : l.Nodup := h.of_map _ (fun _ _ hn e => hn (by rw [e]))


theorem filter_or {α : Type} (p q : α → Bool) (h : ∀ a, p a = true → q a = false) : ∀ l : List α, (l.filter (fun a => p a || q a)).Perm (l.filter p ++ l.filter q)
  | [] => List.Perm.refl _
  | a :: l => by
    have ih := filter_or p q h l
    cases hp : p a
    · cases hq : q a
      · simp only [List.filter_cons, hp, hq, Bool.or_false, Bool.false_eq_true, if_false]
        exact ih
      · simp only [List.filter_cons, hp, hq, Bool.or_true, if_true, Bool.false_eq_true, if_false]
        exact (ih.cons a).trans List.perm_middle.symm
    · simp only [List.filter_cons, hp, h a hp, Bool.or_false, if_true, Bool.false_eq_true, if_false]
      exact ih.cons a

theorem done_step {md x : Int} {T : List Int} (hx : x ∈ T) (l : List (Int × Int)) :
    (l.filter (fun q => !inT md (T.filter (fun y => !decide (y = x))) q)).Perm (l.filter (fun q => !inT md T q) ++ l.filter (fun q => decide (hs md q.1 = x))) := by
  have e1 : (fun q : Int × Int => !inT md (T.filter (fun y => !decide (y = x))) q) = fun q => (!inT md T q || decide (hs md q.1 = x)) := by
    funext q
    unfold inT
    have e2 : (T.filter (fun y => !decide (y = x))).contains (hs md q.1) = (T.contains (hs md q.1) && !decide (hs md q.1 = x)) := by
      rw [Bool.eq_iff_iff]
      simp [List.mem_filter]
    rw [e2]
    cases T.contains (hs md q.1) <;> cases decide (hs md q.1 = x) <;> rfl
  rw [e1]
  refine filter_or _ _ (fun q hq => ?_) l
  rw [decide_eq_false_iff_not]
  rintro rfl
  unfold inT at hq
  rw [List.contains_iff_mem.2 hx] at hq
  cases hq

theorem done_start {md : Int} {w : World} {F : Nat → Prop} {L : List (Int × Value)} {l : List (Int × Int)} (h4 : Chains md w F L l) : l.filter (fun q => !inT md (L.map (·.1)) q) = [] := by
  rw [List.filter_eq_nil_iff]
  intro q hq hn
  unfold inT at hn
  have hmem : hs md q.1 ∈ L.map (·.1) := by
    obtain ⟨x, c, h1, h2, h3⟩ := h4 (hs md q.1)
    have hqc : q ∈ c := (chain_mem h3).2 ⟨hq, rfl⟩
    apply Classical.byContradiction
    intro hno
    rw [lookup_none_of hno] at h1
    have : x = none := pv_inj (h1.symm.trans rfl)
    subst this
    rw [(Seg.nil_of_none h2).1] at hqc
    cases hqc
  rw [List.contains_iff_mem.2 hmem] at hn
  cases hn

set_option linter.unusedVariables false in
set_option maxHeartbeats 2000000 in
set_option maxRecDepth 100000 in
theorem iter_any (V : Vis) (md : Int) (mb p : Nat) (l : List (Int × Int)) (F K0 : Nat → Prop) (w : World) (h : HM md mb w p l F) (hJ : V.J w [] K0) (hV : V.Ok l w K0) (hd : ∀ i, F i → ¬ K0 i) :
    Calls Try.prog 79 #[.pointer (some ⟨p, 0, none⟩), .func (.func V.id) #[] V.caps] w (Iterd V l K0 w) := by
  obtain ⟨tb, L, h1, h2, h3, h4⟩ := h.ex
  obtain ⟨c0, c1, c2, c3, c4, c5, c6⟩ := hm_cells h1
  have hent := V.enters
  have HM0 := hide h
  have H1 := hide h1
  have H2 := hide h2
  have H3 := hide h3
  have H4 := hide h4
  have HJ := hide hJ
  have HV := hide hV
  have HD := hide hd
  have hpl := h1.lt
  clear h h1 h2 h3 h4 hJ hV hd
  go_enter Try.func79, Try.ntmps79
  go_wp2_with (at_range; refine wpList_range_i rfl _ 126 rfl 3 129 Try.underlying126 rfl H2.out ?_)
  intro ob hr0
  have HR0 := hide hr0
  clear hr0
  go_wp2_with fail
  go_loopg [6] (L.length + 1) (fun m s6 wr => ∃ (T : List Int) (S : List (Int × Int)) (K : Nat → Prop), Hid (IRng wr tb w.heap.size L T) ∧ Hid (V.J wr S K) ∧ Hid (Chg K0 w wr) ∧ Hid (∀ i, K i → K0 i ∨ w.heap.size < i) ∧ Hid (S.Perm (l.filter (fun q => !inT md T q))) ∧ Hid (∀ q ∈ S, V.stop q = false) ∧ T.length < m)
  case atStart =>
    have hb : Below w.heap.size w (w.alloc ob) := (Below.refl _ _).alloc (Nat.le_refl _) _
    refine ⟨L.map (fun q : Int × Value => q.1), [], K0, HR0.out, V.keep HJ.out (Chg.ofBelow hb (fun _ => False)) (fun _ _ h => h), Chg.ofBelow hb _, fun i hi => Or.inl hi, ?_, (fun _ h => by cases h), by simp⟩
    show List.Perm _ _
    rw [done_start H4.out]
  case round =>
    obtain ⟨T, S, K, hr, hj, hc, hk, hp, hst, hm⟩ := hrel
    go_wp2_with (at_next; refine wpList_next_i rfl _ rfl rfl hr.out ?_ ?_)
    · intro hT
      subst hT
      have hS : Hid (S.Perm l) := by
        have e1 : l.filter (fun q => !inT md [] q) = l := List.filter_eq_self.2 (fun q _ => rfl)
        have := hp.out
        rw [e1] at this
        exact this
      have hany : Hid (l.any V.stop = false) := by
        show _ = _
        rw [List.any_eq_false]
        intro q hq
        rw [hst.out q (hS.out.mem_iff.2 hq)]
        simp
      go_wp2
      refine bodyPost_ret (v := .bool false) ?_ rfl ?_
      · simp [results, Try.f79, go_sem]
      exact ⟨by rw [hany.out], hc.out, fun _ => ⟨S, K, hS.out, hj.out, fun i hi => (hk.out i hi).imp id (fun h => by omega)⟩⟩
    · intro x v w1 hxL hxT hr1 hg1 hs1 hen
      obtain ⟨x1, c, hx1, hsg, hpc⟩ := H4.out x
      have hv : v = pv x1 := by
        obtain ⟨es, clock, _, _, hn, _⟩ := H2.out
        obtain ⟨j, hj⟩ := List.mem_iff_getElem?.1 hxL
        have := lookup_of_get hn hj
        rw [this] at hx1; exact hx1
      subst hv
      have hcg : Chg (· = w.heap.size) wr w1 := Chg.ofGrown (S := (· = w.heap.size)) hg1 (fun g e _ => (Option.some.inj e).symm)
      have HC1 : Hid (Chg K0 w w1) := hc.out.trans hcg (fun i hi e => by omega)
      have HJ1 : Hid (V.J w1 S K) := V.keep hj.out hcg (fun i hi e => by
        rcases hi with hi | hi
        · rcases hk.out i hi with h | h
          · have := V.lt HJ.out i (Or.inl h)
            omega
          · omega
        · have := V.lt HJ.out i (Or.inr hi)
          omega)
      have HR1 := hide hr1
      have HPC := hide hpc
      have HSG := hide hsg
      have HXT := hide hxT
      clear hr1 hpc hsg hxT hg1 hx1 hxL hcg hs1
      go_wp2_with fail
      go_loopg [6] (c.length + 1) (fun m s6 wr => ∃ (y : Option Nat) (cc0 cc1 S' : List (Int × Int)) (K' : Nat → Prop), s6 = pv y ∧ c = cc0 ++ cc1 ∧ Hid (Seg w F y none cc1) ∧ Hid (IRng wr tb w.heap.size L (T.filter (fun z => !decide (z = x)))) ∧ Hid (V.J wr S' K') ∧ Hid (Chg K0 w wr) ∧ Hid (∀ i, K' i → K0 i ∨ w.heap.size < i) ∧ Hid (S'.Perm (l.filter (fun q => !inT md T q) ++ cc0)) ∧ Hid (∀ q ∈ S', V.stop q = false) ∧ cc1.length < m)
      case atStart => exact ⟨x1, [], c, S, K, rfl, rfl, HSG.out, HR1.out, HJ1.out, HC1.out, hk.out, (by show List.Perm _ _; rw [List.append_nil]; exact hp.out), hst.out, Nat.lt_succ_self _⟩
      case round =>
        obtain ⟨y, cc0, cc1, S', K', rfl, hcc, hsg, hr, hj, hc, hk, hp, hst, hm2⟩ := hrel
        cases y with
        | none =>
          obtain ⟨rfl, _⟩ := Seg.nil_of_none hsg.out
          rw [pv_none]
          go_wp2
          go_roundg ((T.filter (fun z => !decide (z = x))).length + 1)
          case measure =>
            have : (T.filter (fun z => !decide (z = x))).length < T.length := by
              rw [List.length_filter_lt_length_iff_exists]
              exact ⟨x, HXT.out, by simp⟩
            omega
          case rel =>
            refine ⟨_, S', K', hr.out, hj.out, hc.out, hk.out, ?_, hst.out, Nat.lt_succ_self _⟩
            show List.Perm _ _
            have e1 : cc0 = c := by rw [hcc, List.append_nil]
            refine hp.out.trans (List.Perm.trans ?_ (done_step HXT.out l).symm)
            rw [e1]
            exact HPC.out.append_left _
        | some b =>
          obtain ⟨q, d, nx, rfl, hF, hkb, hsg2⟩ := Seg.cons_of hsg.out
          obtain ⟨k0, v0⟩ := q
          have hkw : Blk wr b 131 (entry k0 v0 nx) := hkb.chg hc.out (HD.out b hF)
          obtain ⟨e0, e1, e2⟩ := entry_cells hkw
          rw [pv_some]
          have HK := hide hkw
          have HSG2 := hide hsg2
          clear hkw hsg2 hsg
          have hsub : (S' ++ [(k0, v0)]).Perm ((l.filter (fun q => !inT md T q) ++ cc0) ++ [(k0, v0)]) := hp.out.append_right _
          have hsl : ((l.filter (fun q => !inT md T q) ++ cc0) ++ [(k0, v0)]).Sublist (l.filter (fun q => !inT md T q) ++ c) := by
            rw [hcc, List.append_assoc]
            refine List.Sublist.append (List.Sublist.refl _) ?_
            refine List.Sublist.append (List.Sublist.refl _) ?_
            exact List.Sublist.cons_cons _ (List.nil_sublist _)
          have hpl2 : (l.filter (fun q => !inT md T q) ++ c).Perm (l.filter (fun q => !inT md (T.filter (fun z => !decide (z = x))) q)) := (HPC.out.append_left _).trans (done_step HXT.out l).symm
          have hnd : (S' ++ [(k0, v0)]).Nodup := hsub.nodup_iff.2 ((hpl2.nodup_iff.2 ((nodup_pairs HM0.out.nodup).filter _)).sublist hsl)
          have hmm : ∀ q ∈ S' ++ [(k0, v0)], q ∈ l := fun q hq => (List.mem_filter.1 (hpl2.mem_iff.1 (hsl.subset (hsub.mem_iff.1 hq)))).1
          have hcall := HV.out S' (k0, v0) K' wr.drew hnd hmm hc.out.drew (fun i hi => (hk.out i hi).imp id (fun h => Nat.le_of_lt h)) (V.keep hj.out ((Chg.refl (fun _ => False) wr).drew) (fun _ _ h => h))
          have hbn : Hid (¬ K' b) := fun h => by
            rcases hk.out b h with h | h
            · exact HD.out b hF h
            · have := HM0.out.lt b hF
              omega
          have htn : Hid (¬ K' tb) := fun h => by
            rcases hk.out tb h with h | h
            · exact HD.out tb H3.out h
            · have := HM0.out.lt tb H3.out
              omega
          have hrn : Hid (¬ K' w.heap.size) := fun h => by
            rcases hk.out _ h with h | h
            · have := V.lt HJ.out _ (Or.inl h)
              omega
            · omega
          have hmem : Hid ((k0, v0) ∈ l) := hmm _ (by simp)
          have HCALL := hide hcall
          clear hcall hsub hsl hpl2 hnd hmm
          go_wp2_with fail
          go_region_held3 (fun w' => w'.cell? ⟨b, 0, none⟩ = some (.int .i64 k0) ∧ w'.cell? ⟨b, 1, none⟩ = some (.int .i64 v0)) (first | with_reducible exact ⟨e0', e1'⟩ | go_keep)
            (first
              | (refine HCALL.out.mono ?_
                 rintro e w3 ⟨rfl, K3, hj3, hk3, hc3⟩
                 have hb3 : Blk w3 b 131 (entry k0 v0 nx) := (Blk.drew HK.out).chg hc3 hbn.out
                 obtain ⟨e0', e1', e2'⟩ := entry_cells hb3
                 have HJ3 := hide hj3
                 have HK3 := hide hk3
                 have HC3 := hide hc3
                 clear hj3 hk3 hc3 hb3)
              | fail)
          have HCW : Hid (Chg K0 w w3) := hc.out.drew.trans HC3.out (fun i hi h => (hk.out i h).elim id (fun h => by omega))
          cases hstop : V.stop (k0, v0)
          · go_wp2
            go_roundg (d.length + 1)
            case measure => simp at hm2; omega
            case rel =>
              refine ⟨nx, cc0 ++ [(k0, v0)], d, S' ++ [(k0, v0)], K3, rfl, by rw [hcc]; simp, HSG2.out, ?_, HJ3.out, HCW.out, fun i hi => ?_, ?_, ?_, Nat.lt_succ_self _⟩
              · exact IRng.chg (IRng.of_blocks (w' := wr.drew) hr.out rfl rfl) HC3.out htn.out hrn.out
              · rcases HK3.out i hi with h | h
                · exact hk.out i h
                · have h1 : wr.heap.size ≤ i := h
                  have := hr.out.lt.2.1
                  exact Or.inr (by omega)
              · show List.Perm _ _
                rw [← List.append_assoc]
                exact hp.out.append_right _
              · intro q hq
                rcases List.mem_append.1 hq with h | h
                · exact hst.out q h
                · rw [List.mem_singleton.1 h]; exact hstop
          · have hany : l.any V.stop = true := List.any_eq_true.2 ⟨(k0, v0), hmem.out, hstop⟩
            go_wp2
            refine bodyPost_ret (v := .bool true) ?_ rfl ?_
            · simp [results, Try.f79, go_sem]
            exact ⟨by rw [hany], HCW.out, fun h => by rw [hany] at h; cases h⟩
end Go.Proofs.Ytammpllfmbmdmaa
