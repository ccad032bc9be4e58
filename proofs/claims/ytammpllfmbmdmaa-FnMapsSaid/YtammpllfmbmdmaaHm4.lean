/- The walks of a hash map's Put and Delete. Under sizes alone. -/
import Derived.Test.YtammpllfmbmdmaaHm3
namespace Go.Proofs.Ytammpllfmbmdmaa
open Go.RowKit
open Go.ChangeMaps (setBlock)

/-- 'm[x] = v'. -/
theorem wpList_put_i {P : Program} {w : World} {ops : Array Oper} {rest : List Oper} {o : Oper} {a : Act} {Q : Exit → Act → World → Prop} {b : Nat} {L : List (Int × Value)} (hg : o.guard = none) (m x v : Operand) (t : TypeId) (hop : o.op = Op.mapUpdate t m x v) (kt et : TypeId) (ht : P.underlying t = some (.map kt et)) (hk : P.underlying kt = some (.int .i64))
    (key : Int) (val : Value) (hm : a.eval m = .map (some b)) (hx : a.eval x = .int .i64 key) (hv : a.eval v = val) (h : IMap w b L)
    (hK : ∀ w', IMap w' b (iput L key val) → w.grownBy w' (some b) → w'.heap.size = w.heap.size → wpList P ops Q rest (a.put o.dst undef) w') : wpList P ops Q (o :: rest) a w := by
  refine wpList_plain hg fun K' hK' => ?_
  obtain ⟨ob, hrun, hI⟩ := h.put (P := P) (t := t) ht hk key val
  have hr := hrun 0
  have hlt := h.lt
  have e0 : w.drewN 0 = w := rfl
  rw [e0] at hr
  have hoth : ∀ i, i ≠ b → (setBlock w b ob).heap[i]? = w.heap[i]? := by
    intro i hi
    show (w.heap.setIfInBounds b _)[i]? = _
    rw [Array.getElem?_setIfInBounds_ne (Ne.symm hi)]
  unfold Oper.wp
  simp [execOp, hop, hm, hx, hv, hr, Result.andThen]
  refine hK' _ _ (hK _ (hI _ ?_) ⟨rfl, rfl, rfl, by simp [setBlock], fun i hi hne => hoth i (fun e => hne (by rw [e]))⟩ (by simp [setBlock]))
  show (w.heap.setIfInBounds b ob)[b]? = _
  simp [hlt]

/-- What Put leaves. -/
def HPut (md : Int) (mb p : Nat) (l' : List (Int × Int)) (F : Nat → Prop) (w : World) (e : Ending) (w' : World) : Prop :=
  e = .returned (.tuple #[]) ∧ ∃ F', HM md mb w' p l' F' ∧ (∀ i, F' i → F i ∨ w.heap.size ≤ i) ∧ Chg F w w'

set_option linter.unusedVariables false in
set_option maxHeartbeats 2000000 in
set_option maxRecDepth 100000 in
theorem put_any (md k v : Int) (mb p : Nat) (l : List (Int × Int)) (F : Nat → Prop) (w : World) (h : HM md mb w p l F) (hmd : okI md) (hl : l.length ≤ 1099511627776) :
    Calls Try.prog 71 #[.pointer (some ⟨p, 0, none⟩), .int .i64 k, .int .i64 v] w (HPut md mb p (putL l k v) F w) := by
  obtain ⟨tb, L, h1, h2, h3, h4⟩ := h.ex
  obtain ⟨c0, c1, c2, c3, c4, c5, c6⟩ := hm_cells h1
  have f6 := h1.frozen 6
  obtain ⟨x0, c, hx0, hseg, hperm⟩ := h4 (hs md k)
  have hlook : (Instr.lookup 126 (.map (some tb)) (.int .i64 (hs md k)) false).run Try.prog w = .ok (pv x0) w := by
    have := h2.look (P := Try.prog) (t := 126) (z := .pointer none) Try.underlying126 Try.underlying3 (by kernel_rfl) (hs md k) false
    rw [this, ← hx0]; rfl
  have HH := hide (hash_any md k mb w h.mod hmd)
  have HM0 := hide h
  have H1 := hide h1
  have H2 := hide h2
  have H3 := hide h3
  have H4 := hide h4
  have HX := hide hx0
  have HP := hide hperm
  have HS := hide hseg
  have hmdl := h.mod.lt
  have hpl := h1.lt
  clear h h1 h2 h3 h4 hperm hseg hx0
  go_enter Try.func71, Try.ntmps71
  go_wp2_with fail
  refine HH.out.mono ?_
  rintro e w' ⟨rfl, hw⟩
  obtain rfl := hw.symm
  go_wp2_with fail
  go_loopg [8] (c.length + 1) (fun m s8 wr => ∃ (x : Option Nat) (cc0 cc1 : List (Int × Int)) (n : Nat), s8 = pv x ∧ c = cc0 ++ cc1 ∧ Hid (∀ q ∈ cc0, q.1 ≠ k) ∧ Hid (Seg w F x0 x cc0) ∧ Hid (Seg w F x none cc1) ∧ wr = w.drewN n ∧ cc1.length < m)
  case atStart => exact ⟨x0, [], c, 0, rfl, rfl, (fun _ h => by cases h), rfl, HS.out, rfl, Nat.lt_succ_self _⟩
  case round =>
    obtain ⟨x, cc0, cc1, n, rfl, hcc, hne, hsg0, hsg, rfl, hm⟩ := hrel
    cases x with
    | none =>
      obtain ⟨rfl, _⟩ := Seg.nil_of_none hsg.out
      rw [pv_none]
      have hkl : Hid (k ∉ l.map (·.1)) := fun hk => by
        obtain ⟨q, hq, hqk⟩ := List.mem_map.1 hk
        have : q ∈ c := (chain_mem HP.out).2 ⟨hq, by rw [hqk]⟩
        rw [hcc] at this
        exact hne.out q (by simpa using this) hqk
      have HI : ∀ o, Hid (IMap ((w.drewN n).alloc o) tb L) := fun o => H2.out.of_block (Below.heap_alloc (w.drewN n) _ _ H2.out.lt)
      have hpt : Hid (some p ≠ some tb) := fun e => H2.out.ne_blk H1.out (Option.some.inj e).symm
      have hlw : IntKind.i64.wrap ((l.length : Int) + 1) = (l.length : Int) + 1 := by rw [IntKind.wrap_i64]; omega
      have HFIN : Hid (∀ w2, IMap w2 tb (iput L (hs md k) (pv (some w.heap.size))) → ((w.drewN n).alloc (.cells (entry k v x0) 131)).grownBy w2 (some tb) → w2.heap.size = w.heap.size + 1 →
          Blk w2 p 128 (hmCells mb tb l.length) ∧ ∃ F', HM md mb (w2.setCell ⟨p, 6, none⟩ (.int .i64 ((l.length : Int) + 1))) p (putL l k v) F' ∧ (∀ i, F' i → F i ∨ w.heap.size ≤ i) ∧ Chg F w (w2.setCell ⟨p, 6, none⟩ (.int .i64 ((l.length : Int) + 1)))) := by
        intro w2 hI hg hs2
        have hch0 : Chg (· = tb) w w2 := (((Chg.refl (· = tb) w).drewN n).alloc _).trans (Chg.ofGrown (S := (· = tb)) hg (fun g e _ => (Option.some.inj e).symm)) (fun _ _ h => h)
        have B1 : Blk w2 p 128 (hmCells mb tb l.length) := H1.out.chg hch0 (fun e => hpt.out (by rw [e]))
        have hfr : ∀ b cs, Blk w b 131 cs → Blk w2 b 131 cs := fun b cs hb => hb.chg hch0 (fun e => H2.out.ne_blk hb e.symm)
        have hg0 : Blk w2 w.heap.size 131 (entry k v x0) := (hg.block w.heap.size (by simp) (fun e => by have := H2.out.lt; have := Option.some.inj e; omega)).trans (Blk.new_ (w.drewN n) 131 (entry k v x0) rfl)
        refine ⟨B1, _, HM.add B1 H3.out (H4.out.frame hfr) HM0.out.nodup HM0.out.fp (HM0.out.mod.chg hch0 (fun e => H2.out.ne_blk HM0.out.mod e.symm)) (fun i hi => Nat.lt_of_lt_of_le (HM0.out.lt i hi) hch0.size) HM0.out.nmb hI HP.out (HS.out.frame hfr) hg0 hkl.out, ?_, ?_⟩
        · rintro i (h | h)
          · exact Or.inl h
          · exact Or.inr (by omega)
        · exact (hch0.mono (fun i _ e => by rw [e]; exact H3.out)).setCell (p := ⟨p, 6, none⟩) (fun _ => HM0.out.fp) _
      rcases x0 with _ | b0
      all_goals
        unfold entry at HFIN
        first | rw [pv_none] at hlook HFIN | rw [pv_some b0] at hlook HFIN
        rw [pv_some] at HFIN
        first | rw [pv_none] | rw [pv_some b0]
        go_wp2_with (at_mapUpdate; refine wpList_put_i rfl _ _ _ 126 rfl 3 129 Try.underlying126 Try.underlying3 (hs md k) (.pointer (some ⟨w.heap.size, 0, none⟩)) rfl rfl rfl (HI _).out ?_)
        intro w2 hI2 hg2 hs2
        obtain ⟨B1, F', q1, q2, q3⟩ := HFIN.out w2 hI2 hg2 (by rw [hs2])
        obtain ⟨d0, d1, d2, d3, d4, d5, d6⟩ := hm_cells B1
        have f6' := B1.frozen 6
        have Q1 := hide q1
        have Q2 := hide q2
        have Q3 := hide q3
        clear hI2 hg2 hs2 B1 q1 q2 q3
        go_wp2
        refine bodyPost_ret (v := .tuple #[]) ?_ rfl ?_
        · simp [results, Try.f71, go_sem]
        exact ⟨rfl, F', Q1.out, Q2.out, Q3.out⟩
    | some b =>
      obtain ⟨q, d, nx, rfl, hF, hk, hsg2⟩ := Seg.cons_of hsg.out
      obtain ⟨k0, v0⟩ := q
      obtain ⟨e0, e1, e2⟩ := entry_cells hk
      have g1 := hk.frozen 1
      rw [pv_some]
      have HK := hide hk
      have HSG2 := hide hsg2
      clear hk hsg2 hsg
      go_wp2_with fail
      go_quiet ((go_at_call 68; exact (same_any _ _ _).mono (fun _ _ h => ⟨h.1, _, h.2⟩)))
      by_cases hk : k0 = k
      · subst hk
        go_wp2
        refine bodyPost_ret (v := .tuple #[]) ?_ rfl ?_
        · simp [results, Try.f71, go_sem]
        have hp' := HP.out
        rw [hcc] at hp'
        have h5 : HM md mb ((w.drewN (n + nq)).setCell ⟨b, 1, none⟩ (.int .i64 v)) p (putL l k0 v) F :=
          HM.setv (w := w.drewN (n + nq)) H1.out H2.out H3.out (Chains.frame (w := w) (w' := w.drewN (n + nq)) H4.out (fun _ _ h => h)) HM0.out.nodup HM0.out.fp HM0.out.mod HM0.out.lt HM0.out.nmb HX.out hp' (Seg.frame (w := w) (w' := w.drewN (n + nq)) (fun _ _ h => h) hsg0.out) hF HK.out (Seg.frame (w := w) (w' := w.drewN (n + nq)) (fun _ _ h => h) HSG2.out)
        exact ⟨rfl, F, h5, fun i hi => Or.inl hi, ((Chg.refl F w).drewN _).setCell (p := ⟨b, 1, none⟩) (fun _ => hF) _⟩
      · have hk2 : decide (k0 = k) = false := decide_eq_false hk
        go_wp2
        go_roundg (d.length + 1)
        case measure => simp at hm; omega
        case rel => exact ⟨nx, cc0 ++ [(k0, v0)], d, _, rfl, by rw [hcc]; simp, (fun q hq => by
          rcases List.mem_append.1 hq with h | h
          · exact hne.out q h
          · rw [List.mem_singleton.1 h]; exact hk), Seg.append hsg0.out ⟨b, nx, rfl, hF, HK.out, rfl⟩, HSG2.out, rfl, Nat.lt_succ_self _⟩

/-- What Delete leaves. -/
def HDel (md : Int) (mb p : Nat) (l' : List (Int × Int)) (F : Nat → Prop) (w : World) (e : Ending) (w' : World) : Prop :=
  e = .returned (.tuple #[]) ∧ HM md mb w' p l' F ∧ Chg F w w'

theorem del_none {l : List (Int × Int)} {k : Int} (h : k ∉ l.map (·.1)) : delL l k = l := del_id (fun q hq e => h (List.mem_map.2 ⟨q, hq, e⟩))

/-- The entry ahead. -/
def Prev (w : World) (F : Nat → Prop) (x0 x : Option Nat) (cc0 : List (Int × Int)) (pr : Option Nat) : Prop :=
  (pr = none ∧ cc0 = [] ∧ x = x0) ∨ ∃ bp kp vp cc, pr = some bp ∧ cc0 = cc ++ [(kp, vp)] ∧ F bp ∧ Blk w bp 131 (entry kp vp x) ∧ Seg w F x0 (some bp) cc

set_option linter.unusedVariables false in
set_option maxHeartbeats 2000000 in
set_option maxRecDepth 100000 in
theorem delete_any (md k : Int) (mb p : Nat) (l : List (Int × Int)) (F : Nat → Prop) (w : World) (h : HM md mb w p l F) (hmd : okI md) (hl : l.length ≤ 1099511627776) :
    Calls Try.prog 73 #[.pointer (some ⟨p, 0, none⟩), .int .i64 k] w (HDel md mb p (delL l k) F w) := by
  obtain ⟨tb, L, h1, h2, h3, h4⟩ := h.ex
  obtain ⟨c0, c1, c2, c3, c4, c5, c6⟩ := hm_cells h1
  have f6 := h1.frozen 6
  obtain ⟨x0, c, hx0, hseg, hperm⟩ := h4 (hs md k)
  have hlook : (Instr.lookup 126 (.map (some tb)) (.int .i64 (hs md k)) false).run Try.prog w = .ok (pv x0) w := by
    have := h2.look (P := Try.prog) (t := 126) (z := .pointer none) Try.underlying126 Try.underlying3 (by kernel_rfl) (hs md k) false
    rw [this, ← hx0]; rfl
  have HH := hide (hash_any md k mb w h.mod hmd)
  have HM0 := hide h
  have H1 := hide h1
  have H2 := hide h2
  have H3 := hide h3
  have H4 := hide h4
  have HX := hide hx0
  have HP := hide hperm
  have HS := hide hseg
  have hmdl := h.mod.lt
  have hpl := h1.lt
  clear h h1 h2 h3 h4 hperm hseg hx0
  go_enter Try.func73, Try.ntmps73
  go_wp2_with fail
  refine HH.out.mono ?_
  rintro e w' ⟨rfl, hw⟩
  obtain rfl := hw.symm
  go_wp2_with fail
  go_loopg [5, 6] (c.length + 1) (fun m s5 s6 wr => ∃ (pr x : Option Nat) (cc0 cc1 : List (Int × Int)) (n : Nat), s5 = pv pr ∧ s6 = pv x ∧ c = cc0 ++ cc1 ∧ Hid (∀ q ∈ cc0, q.1 ≠ k) ∧ Hid (Prev w F x0 x cc0 pr) ∧ Hid (Seg w F x0 x cc0) ∧ Hid (Seg w F x none cc1) ∧ wr = w.drewN n ∧ cc1.length < m)
  case atStart => exact ⟨none, x0, [], c, 0, rfl, rfl, rfl, (fun _ h => by cases h), Or.inl ⟨rfl, rfl, rfl⟩, rfl, HS.out, rfl, Nat.lt_succ_self _⟩
  case round =>
    obtain ⟨pr, x, cc0, cc1, n, rfl, rfl, hcc, hne, hpr, hsg0, hsg, rfl, hm⟩ := hrel
    cases x with
    | none =>
      obtain ⟨rfl, _⟩ := Seg.nil_of_none hsg.out
      rw [pv_none]
      have hkl : Hid (k ∉ l.map (·.1)) := fun hk => by
        obtain ⟨q, hq, hqk⟩ := List.mem_map.1 hk
        have : q ∈ c := (chain_mem HP.out).2 ⟨hq, by rw [hqk]⟩
        rw [hcc] at this
        exact hne.out q (by simpa using this) hqk
      go_wp2
      refine bodyPost_ret (v := .tuple #[]) ?_ rfl ?_
      · simp [results, Try.f73, go_sem]
      rw [del_none hkl.out]
      exact ⟨rfl, HM0.out.chg ((Chg.refl (fun _ => False) w).drewN _) (fun _ _ h => h) (fun h => h), (Chg.refl F w).drewN _⟩
    | some b =>
      obtain ⟨q, d, nx, rfl, hF, hk, hsg2⟩ := Seg.cons_of hsg.out
      obtain ⟨k0, v0⟩ := q
      obtain ⟨e0, e1, e2⟩ := entry_cells hk
      rw [pv_some]
      have HK := hide hk
      have HSG2 := hide hsg2
      clear hk hsg2 hsg
      go_wp2_with fail
      go_quiet ((go_at_call 68; exact (same_any _ _ _).mono (fun _ _ h => ⟨h.1, _, h.2⟩)))
      by_cases hk : k0 = k
      · subst hk
        have hcm : Hid (∀ h, h ≠ hs md k0 → ∃ x c, (L.lookup h).getD (.pointer none) = pv x ∧ Seg w F x none c ∧ c.Perm (l.filter (fun q => decide (hs md q.1 = h)))) := fun h _ => H4.out h
        rcases hpr.out with ⟨rfl, rfl, hxx⟩ | ⟨bp, kp, vp, cc, rfl, rfl, hFp, hkp, hsgp⟩
        · obtain rfl : some b = x0 := hxx
          obtain ⟨ob, hup, hI⟩ := H2.out.put (P := Try.prog) (t := 126) Try.underlying126 Try.underlying3 (hs md k0) (pv nx)
          have hup2 : (Instr.mapUpdate 126 (.map (some tb)) (.int .i64 (hs md k0)) (pv nx)).run Try.prog (w.drewN (n + nq + 1)) = .ok () (setBlock (w.drewN (n + nq + 1)) tb ob) := hup (n + nq + 1)
          have HFIN : Hid (Blk (setBlock (w.drewN (n + nq + 1)) tb ob) p 128 (hmCells mb tb l.length) ∧ HM md mb ((setBlock (w.drewN (n + nq + 1)) tb ob).setCell ⟨p, 6, none⟩ (.int .i64 ((l.length : Int) - 1))) p (delL l k0) F ∧ Chg F w ((setBlock (w.drewN (n + nq + 1)) tb ob).setCell ⟨p, 6, none⟩ (.int .i64 ((l.length : Int) - 1)))) := by
            have hch0 : Chg (· = tb) w (setBlock (w.drewN (n + nq + 1)) tb ob) := ((Chg.refl (· = tb) w).drewN (n + nq + 1)).setBlock (fun _ => rfl) ob
            have hpt : ¬ p = tb := fun e => H2.out.ne_blk H1.out e.symm
            have B1 := H1.out.chg hch0 hpt
            have hfr : ∀ b cs, Blk w b 131 cs → Blk (setBlock (w.drewN (n + nq + 1)) tb ob) b 131 cs := fun b cs hb => hb.chg hch0 (fun e => H2.out.ne_blk hb e.symm)
            have hI2 : IMap (setBlock (w.drewN (n + nq + 1)) tb ob) tb (iput L (hs md k0) (pv nx)) := hI _ (by
              show (w.heap.setIfInBounds tb ob)[tb]? = _
              simp [H2.out.lt])
            have hp' := HP.out
            rw [hcc] at hp'
            refine ⟨B1, HM.cut (c0 := []) B1 hI2 H3.out (fun h hh => ?_) HM0.out.nodup HM0.out.fp (HM0.out.mod.chg hch0 (fun e => H2.out.ne_blk HM0.out.mod e.symm)) (fun i hi => Nat.lt_of_lt_of_le (HM0.out.lt i hi) hch0.size) HM0.out.nmb hp' (fun h => lookup_iput') (Seg.frame hfr HSG2.out), (hch0.mono (fun i _ e => by rw [e]; exact H3.out)).setCell (p := ⟨p, 6, none⟩) (fun _ => HM0.out.fp) _⟩
            obtain ⟨x, c', q1, q2, q3⟩ := hcm.out h hh
            exact ⟨x, c', q1, q2.frame hfr, q3⟩
          clear hI hup
          rw [pv_none]
          go_wp2_with fail
          go_region
          generalize setBlock (w.drewN (n + nq + 1)) tb ob = w2 at *
          obtain ⟨d0, d1, d2, d3, d4, d5, d6⟩ := hm_cells HFIN.out.1
          have f6' := HFIN.out.1.frozen 6
          go_wp2
          refine bodyPost_ret (v := .tuple #[]) ?_ rfl ?_
          · simp [results, Try.f73, go_sem]
          exact ⟨rfl, HFIN.out.2.1, HFIN.out.2.2⟩
        · have gp2 := hkp.frozen 2
          obtain ⟨y0, y1, y2⟩ := entry_cells hkp
          have HFIN : Hid (Blk ((w.drewN (n + nq)).setCell ⟨bp, 2, none⟩ (pv nx)) p 128 (hmCells mb tb l.length) ∧ HM md mb (((w.drewN (n + nq)).setCell ⟨bp, 2, none⟩ (pv nx)).setCell ⟨p, 6, none⟩ (.int .i64 ((l.length : Int) - 1))) p (delL l k0) F ∧ Chg F w (((w.drewN (n + nq)).setCell ⟨bp, 2, none⟩ (pv nx)).setCell ⟨p, 6, none⟩ (.int .i64 ((l.length : Int) - 1)))) := by
            have hch0 : Chg (· = bp) w ((w.drewN (n + nq)).setCell ⟨bp, 2, none⟩ (pv nx)) := ((Chg.refl (· = bp) w).drewN (n + nq)).setCell (p := ⟨bp, 2, none⟩) (fun _ => rfl) _
            have hpt : ¬ p = bp := H1.out.ne_ hkp (by decide)
            have B1 := H1.out.chg hch0 hpt
            have hp' := HP.out
            rw [hcc] at hp'
            have hcn := chain_nodup HM0.out.nodup hp'
            obtain ⟨hn0, hn1⟩ := keys_apart hcn
            have hcn2 := hcn
            rw [List.append_assoc] at hcn2
            obtain ⟨hm0, hm1⟩ := keys_apart (c0 := cc) (d := (k0, v0) :: d) (k := kp) (v := vp) hcn2
            have hkx : Blk w bp 131 (entry kp vp (some b)) := hkp
            have s0 : Seg ((w.drewN (n + nq)).setCell ⟨bp, 2, none⟩ (pv nx)) F x0 (some bp) cc := Seg.other (w := w.drewN (n + nq)) (p := ⟨bp, 2, none⟩) hkx _ hm0 (Seg.frame (w := w) (w' := w.drewN (n + nq)) (fun _ _ h => h) hsgp)
            have s1 : Seg ((w.drewN (n + nq)).setCell ⟨bp, 2, none⟩ (pv nx)) F nx none d := Seg.other (w := w.drewN (n + nq)) (p := ⟨bp, 2, none⟩) hkx _ (fun q hq => hm1 q (by simp [hq])) (Seg.frame (w := w) (w' := w.drewN (n + nq)) (fun _ _ h => h) HSG2.out)
            have e9 : Blk ((w.drewN (n + nq)).setCell ⟨bp, 2, none⟩ (pv nx)) bp 131 (entry kp vp nx) := Blk.set_ (w := w.drewN (n + nq)) hkx 2 _
            refine ⟨B1, HM.cut (L := L) (L' := L) (x' := x0) (c0 := cc ++ [(kp, vp)]) (d := d) B1 (H2.out.chg hch0 (H2.out.ne_blk hkp)) H3.out (fun h hh => ?_) HM0.out.nodup HM0.out.fp (HM0.out.mod.chg hch0 (HM0.out.mod.ne_ hkp (by decide))) (fun i hi => Nat.lt_of_lt_of_le (HM0.out.lt i hi) hch0.size) HM0.out.nmb hp' (fun h => ?_) ?_, (hch0.mono (fun i _ e => by rw [e]; exact hFp)).setCell (p := ⟨p, 6, none⟩) (fun _ => HM0.out.fp) _⟩
            · obtain ⟨x, c', q1, q2, q3⟩ := hcm.out h hh
              refine ⟨x, c', q1, Seg.other (w := w.drewN (n + nq)) (p := ⟨bp, 2, none⟩) hkx _ (fun q hq e => ?_) (Seg.frame (w := w) (w' := w.drewN (n + nq)) (fun _ _ h => h) q2), q3⟩
              have r1 : hs md kp = hs md k0 := ((chain_mem hp').1 (by simp : (kp, vp) ∈ (cc ++ [(kp, vp)]) ++ (k0, v0) :: d)).2
              have r2 := ((chain_mem q3).1 hq).2
              rw [e, r1] at r2
              exact hh r2.symm
            · split
              · rename_i h9; rw [h9]; exact HX.out
              · rfl
            · exact Seg.append (Seg.append s0 ⟨bp, nx, rfl, hFp, e9, rfl⟩) s1
          rw [pv_some]
          rcases nx with _ | nb
          all_goals
            first | rw [pv_none] at e2 HFIN | rw [pv_some nb] at e2 HFIN
            go_wp2_with fail
            generalize (w.drewN (n + nq)).setCell ⟨bp, 2, none⟩ _ = w2 at *
            obtain ⟨d0, d1, d2, d3, d4, d5, d6⟩ := hm_cells HFIN.out.1
            have f6' := HFIN.out.1.frozen 6
            go_wp2
            refine bodyPost_ret (v := .tuple #[]) ?_ rfl ?_
            · simp [results, Try.f73, go_sem]
            exact ⟨rfl, HFIN.out.2.1, HFIN.out.2.2⟩
      · have hk2 : decide (k0 = k) = false := decide_eq_false hk
        go_wp2
        go_roundg (d.length + 1)
        case measure => simp at hm; omega
        case rel => exact ⟨some b, nx, cc0 ++ [(k0, v0)], d, _, rfl, rfl, by rw [hcc]; simp, (fun q hq => by
          rcases List.mem_append.1 hq with h | h
          · exact hne.out q h
          · rw [List.mem_singleton.1 h]; exact hk), Or.inr ⟨b, k0, v0, cc0, rfl, rfl, hF, HK.out, hsg0.out⟩, Seg.append hsg0.out ⟨b, nx, rfl, hF, HK.out, rfl⟩, HSG2.out, rfl, Nat.lt_succ_self _⟩
end Go.Proofs.Ytammpllfmbmdmaa
