/- The walk of charNode.Remove. Under sizes alone. -/
import Derived.Test.YtaihafoopoaahaaCc
namespace Go.Proofs.Ytaihafoopoaahaa
open Go.RowKit

theorem kids_take (U : Bs → Nat) (L : Bs → Value) (q cs : Bs) (j : Nat) (hj : j ≤ cs.length) : kids U L q (cs.take j) = (kids U L q cs).take (j * 3) := by
  have h1 : kids U L q cs = kids U L q (cs.take j) ++ kids U L q (cs.drop j) := by rw [← kids_append, List.take_append_drop]
  rw [h1, List.take_left' (by rw [kids_len, List.length_take]; omega)]
theorem kids_drop (U : Bs → Nat) (L : Bs → Value) (q cs : Bs) (j : Nat) (hj : j ≤ cs.length) : kids U L q (cs.drop j) = (kids U L q cs).drop (j * 3) := by
  have h1 : kids U L q cs = kids U L q (cs.take j) ++ kids U L q (cs.drop j) := by rw [← kids_append, List.take_append_drop]
  rw [h1, List.drop_left' (by rw [kids_len, List.length_take]; omega)]
theorem kids_erase (U : Bs → Nat) (L : Bs → Value) (q cs : Bs) (j : Nat) (u : Value) (hj : j < cs.length) : kids U L q (cs.eraseIdx j) = ((kids U L q cs).set (j * 3 + 2) u).take (j * 3) ++ ((kids U L q cs).set (j * 3 + 2) u).drop ((j + 1) * 3) := by
  rw [List.eraseIdx_eq_take_drop_succ, kids_append, kids_take _ _ _ _ _ (by omega), kids_drop _ _ _ _ _ (by omega)]
  congr 1
  · rw [List.take_set_of_le (by omega)]
  · rw [List.drop_set_of_lt (by omega)]

/-- 'append(x[:j], x[j+1:]...)' in place. -/
theorem run_pull (w : World) (ty : TypeId) (i : TypeInfo) (hi : Try.prog.info? 46 = some i) (hs : i.size = 3) (b m cp j : Nat) (ks : List Value) (hown : w.ownsRow 0 46 3 (.slice (some ⟨b, 0, none⟩) m cp) m ks) (hj : j < m) (h1 : ∀ u ∈ ks, u.oneCell' = true)
    (ad : Addr) (c : Nat) (had : j + 1 < m → ad = ⟨b, (j + 1) * 3, none⟩) :
    ∃ w', (Builtin.append_ #[44, 44] ty #[.slice (some ⟨b, 0, none⟩) j cp, .slice (some ad) (m - (j + 1)) c]).run Try.prog w = .ok (.slice (some ⟨b, 0, none⟩) (m - 1) cp) w' ∧
      w'.ownsRow 0 46 3 (.slice (some ⟨b, 0, none⟩) (m - 1) cp) (m - 1) (ks.take (j * 3) ++ ks.drop ((j + 1) * 3)) ∧ Chg (fun g => g = b) w w' ∧ w'.heap.size = w.heap.size := by
  have hl := hown.1
  rcases id hown.2 with ⟨h2, _⟩ | ⟨g, cap, cur, h2, _, hg, hnc, hcm, hcs, htake⟩
  · simp at h2
  simp only [Value.slice.injEq, Option.some.injEq, Addr.mk.injEq, and_true, true_and] at h2
  obtain ⟨rfl, rfl⟩ := h2
  have hcl : cur.toList.length = cp * 3 := by simpa using hcs
  have hx : (ks.drop ((j + 1) * 3)).length = (m - (j + 1)) * 3 := by rw [List.length_drop, hl]; omega
  have hr := run_append_room (P := Try.prog) (w := w) 44 ty 46 i Try.underlying44 hi b j cp cur hg ad (m - (j + 1)) c (ks.drop ((j + 1) * 3)) (by rw [hx, hs]) (fun t u ht => by
    have h3 := (List.getElem?_eq_some_iff.1 ht).1
    rw [had (by omega), add_plain, cell_of_row w b _ cur 46 (0, 0) hg]
    rw [List.getElem?_drop] at ht
    rw [← htake, List.getElem?_take, if_pos (by omega)] at ht
    rw [← ht]
    simp) (fun u hu => h1 u (List.mem_of_mem_drop hu)) (by omega) (by rw [hx, hs]; have : cur.size = cp * 3 := hcs; omega)
  rw [hs] at hr
  rw [show j + (m - (j + 1)) = m - 1 by omega] at hr
  refine ⟨_, hr, ⟨?_, .inr ⟨b, cp, _, rfl, Nat.zero_le _, setRow_heap w b cur _ 46 (0, 0) hg, by omega, hcm, ?_, ?_⟩⟩, ⟨rfl, rfl, rfl, by simp [World.setRow], fun k _ hk => setRow_other w b k _ hk⟩, by simp [World.setRow]⟩
  · rw [List.length_append, hx, List.length_take, hl]; omega
  · simp only [List.size_toArray, List.length_append, List.length_take, List.length_drop, hcl, hl]
    omega
  · have e : cur.toList.take (j * 3) = ks.take (j * 3) := by
      rw [← htake, List.take_take]; congr 1; omega
    rw [e]
    have h4 : (ks.take (j * 3) ++ ks.drop ((j + 1) * 3)).length = (m - 1) * 3 := by rw [List.length_append, hx, List.length_take, hl]; omega
    exact List.take_left' h4
theorem step_pull {w : World} {ops : Array Oper} {o : Oper} {a : Act} {K : Act → World → Prop} {Q : Exit → Act → World → Prop} {E : Prop} (hgd : o.guard = none) (s x : Operand)
    (ho : o.op = .call { callee := .builtin .append, args := #[s, x], argTypes := #[44, 44] }) (i : TypeInfo) (hi : Try.prog.info? 46 = some i) (hs : i.size = 3) (b m cp j : Nat) (ks : List Value) (hown : w.ownsRow 0 46 3 (.slice (some ⟨b, 0, none⟩) m cp) m ks) (hj : j < m) (h1 : ∀ u ∈ ks, u.oneCell' = true)
    (ad : Addr) (r c : Nat) (hrm : r = m - (j + 1)) (had : j + 1 < m → ad = ⟨b, (j + 1) * 3, none⟩) (hsv : a.eval s = .slice (some ⟨b, 0, none⟩) j cp) (hxv : a.eval x = .slice (some ad) r c)
    (h : ∀ w', Hid (w'.ownsRow 0 46 3 (.slice (some ⟨b, 0, none⟩) (m - 1) cp) (m - 1) (ks.take (j * 3) ++ ks.drop ((j + 1) * 3))) → Hid (Chg (fun g => g = b) w w') → w'.heap.size = w.heap.size → K (a.put o.dst (.slice (some ⟨b, 0, none⟩) (m - 1) cp)) w') :
    if Region.wanted o (yielded ops a.tmps) = true then Oper.wp Try.prog o a w K Q else E := by
  subst hrm
  have hw : Region.wanted o (yielded ops a.tmps) = true := by simp [Region.wanted, hgd]
  rw [if_pos hw]
  obtain ⟨w', h2, h3, h4, h5⟩ := run_pull w o.type i hi hs b m cp j ks hown hj h1 ad c had
  unfold Oper.wp execOp
  simp only [ho, resolve, invoke, builtin, Sem.run_bind, Sem.run_pure, Result.andThen_ok, List.map_toArray, List.map_cons, List.map_nil, hsv, hxv, h2]
  exact h w' h3 h4 h5

/-- The state of Remove behind i places of the text. -/
structure RemS (w : World) (root : Nat) (F : Nat → Prop) (U : Bs → Nat) (s : Bs) (wr : World) (i hb ho : Nat) (C : Bs → Bs) (L : Bs → Value) : Prop where
  mem : CtM wr root F (subU U s i) C L
  hd : HeadAt (subU U s i) root C L (s.take i) hb ho
  chg : Chg F w wr
  two : ∀ j, 0 < j → j ≤ i → j ≤ s.length → 2 ≤ U (s.take j)
def Mono (U : Bs → Nat) : Prop := ∀ q r, q ≠ [] → q <+: r → U r ≤ U q
theorem cntU_mono (M : List Bs) : Mono (cntU M) := by
  intro q r h0 hp
  have h1 : r ≠ [] := fun e => by
    subst e
    exact h0 (List.prefix_nil.1 hp)
  simp only [cntU, h0, h1, if_false]
  apply List.countP_mono_left
  intro m _ hm
  rw [List.isPrefixOf_iff_prefix] at hm ⊢
  exact hp.trans hm

section
variable {w wr wx : World} {root : Nat} {F : Nat → Prop} {U : Bs → Nat} {s : Bs} {i hb ho : Nat} {C : Bs → Bs} {L : Bs → Value}
theorem prefix_take_iff {q s : Bs} {i : Nat} (h : q <+: s.take i) : ∃ j, j ≤ i ∧ j ≤ s.length ∧ q = s.take j := by
  have h1 := h.length_le
  rw [List.length_take] at h1
  refine ⟨q.length, by omega, by omega, ?_⟩
  have h2 := List.prefix_iff_eq_take.1 h
  rw [List.take_take] at h2
  rw [show min q.length i = q.length by omega] at h2
  exact h2
theorem RemS.on (h : RemS w root F U s wr i hb ho C L) {q : Bs} (hq : q <+: s.take i) : On (subU U s i) q := by
  by_cases h0 : q = []
  · exact Or.inl h0
  · refine Or.inr ?_
    obtain ⟨j, h1, h2, rfl⟩ := prefix_take_iff hq
    have h3 : 0 < j := by
      rcases Nat.eq_zero_or_pos j with e | e
      · subst e; simp at h0
      · exact e
    have h4 := h.two j h3 h1 h2
    have h5 := ind_le (s.take i) (s.take j)
    unfold subU
    omega
theorem RemS.gr (h : RemS w root F U s wr i hb ho C L) (hg : Chg (fun _ => False) wr wx) : RemS w root F U s wx i hb ho C L :=
  ⟨h.mem.chg hg (fun _ _ h => h), h.hd, h.chg.trans hg (fun _ _ h => h.elim), h.two⟩
theorem subU_next {ch : UInt8} (U : Bs → Nat) : subU U s i (s.take i ++ [ch]) = U (s.take i ++ [ch]) := by
  unfold subU
  rw [ind_no (fun hp => by have := hp.length_le; simp at this; omega)]
  omega
theorem RemS.found {b j : Nat} {ch : UInt8} (h : RemS w root F U s wr i hb ho C L) (hch : s[i]? = some ch) (hj : (C (s.take i))[j]? = some ch) (hbl : (L (s.take i)).ownBlock = some b) (h2 : 2 ≤ U (s.take i ++ [ch])) :
    RemS w root F U s (wr.setCell ⟨b, j * 3 + 2, none⟩ (.int .i64 ((U (s.take i ++ [ch]) - 1 : Nat) : Int))) (i + 1) b (j * 3) C L := by
  have hon := h.on (List.prefix_refl _)
  have e : subU U s (i + 1) = updU (subU U s i) (s.take i ++ [ch]) (U (s.take i ++ [ch]) - 1) := by
    funext q
    rw [subU_succ U hch]
    unfold updU
    split
    · rename_i h; rw [h]
    · rfl
  have h3 : CtM (wr.setCell ⟨b, j * 3 + 2, none⟩ (.int .i64 ((U (s.take i ++ [ch]) - 1 : Nat) : Int))) root F (subU U s (i + 1)) C L := by
    rw [e]
    exact h.mem.used hon hj hbl _ (by omega)
  have htwo : ∀ j, 0 < j → j ≤ i + 1 → j ≤ s.length → 2 ≤ U (s.take j) := fun j' h4 h5 h6 => by
    rcases Nat.lt_or_ge i j' with h7 | h7
    · obtain rfl : j' = i + 1 := by omega
      rw [take_succ_snoc hch]
      exact h2
    · exact h.two j' h4 h7 h6
  refine ⟨h3, ?_, h.chg.setCell (p := ⟨b, j * 3 + 2, none⟩) (fun _ => (h.mem.foot _ b hon hbl).1) _, htwo⟩
  have hon2 : On (subU U s (i + 1)) (s.take i) := by
    by_cases h0 : s.take i = []
    · exact Or.inl h0
    · refine Or.inr ?_
      have h8 := (List.getElem?_eq_some_iff.1 hch).1
      have h9 := htwo i (by rcases Nat.eq_zero_or_pos i with e | e; (subst e; simp at h0); exact e) (by omega) (by omega)
      have h10 := ind_le (s.take (i + 1)) (s.take i)
      unfold subU
      omega
  rw [take_succ_snoc hch]
  exact HeadAt.kid hon2 hj hbl
theorem RemS.pull {w2 : World} {b j cp : Nat} {ch : UInt8} (h : RemS w root F U s wr i hb ho C L) (hO : One U s) (hM : Mono U) (hch : s[i]? = some ch) (hj : (C (s.take i))[j]? = some ch) (hbl : (L (s.take i)).ownBlock = some b) (h1 : U (s.take i ++ [ch]) = 1)
    (hc : Chg (fun g => g = b) wr w2) {u : Value}
    (hv : w2.ownsRow 0 46 3 (.slice (some ⟨b, 0, none⟩) ((C (s.take i)).length - 1) cp) ((C (s.take i)).length - 1) (((kids (subU U s i) L (s.take i) (C (s.take i))).set (j * 3 + 2) u).take (j * 3) ++ ((kids (subU U s i) L (s.take i) (C (s.take i))).set (j * 3 + 2) u).drop ((j + 1) * 3))) :
    (∃ C' L', CtM (w2.setCell ⟨hb, ho + 1, none⟩ (.slice (some ⟨b, 0, none⟩) ((C (s.take i)).length - 1) cp)) root F (fun q => U q - ind s q) C' L') ∧ Chg F w (w2.setCell ⟨hb, ho + 1, none⟩ (.slice (some ⟨b, 0, none⟩) ((C (s.take i)).length - 1) cp)) := by
  have hon := h.on (List.prefix_refl _)
  have hl := (List.getElem?_eq_some_iff.1 hj).1
  have hil := (List.getElem?_eq_some_iff.1 hch).1
  have hps : s.take i ++ [ch] <+: s := by
    rw [← take_succ_snoc hch]
    exact List.take_prefix _ _
  rw [← kids_erase _ _ _ _ _ _ hl] at hv
  have hc2 : Chg (fun g => (L (s.take i)).ownBlock = some g) wr w2 := hc.mono (fun g _ e => by rw [e]; exact hbl)
  refine ⟨⟨_, _, h.mem.pull hon h.hd hj ?_ ?_ hc2 hv (by rw [hbl]; rfl)⟩, ?_⟩
  · intro r hr
    unfold subU
    by_cases h0 : r = []
    · subst h0; simp [ind_nil]
    · by_cases hp : r <+: s
      · have h3 : r <+: s.take i := by
          rcases Nat.lt_or_ge i r.length with h4 | h4
          · exact absurd (List.prefix_of_prefix_length_le hps hp (by simp; omega)) hr
          · exact List.prefix_take_iff.2 ⟨hp, h4⟩
        rw [ind_yes h0 hp, ind_yes h0 h3]
      · rw [ind_no hp, ind_no (fun h4 => hp (h4.trans (List.take_prefix _ _)))]
  · intro r hr
    have h3 := hM _ r (snoc_ne _ _) hr
    rcases Nat.eq_zero_or_pos (U r) with h4 | h4
    · omega
    · have h5 := hO.2 _ r (snoc_ne _ _) hps h1 hr h4
      have h6 : r ≠ [] := fun e => by
        subst e
        exact snoc_ne _ _ (List.prefix_nil.1 hr)
      rw [ind_yes h6 h5]
      omega
  · exact (h.chg.trans hc (fun g _ e => by rw [e]; exact (h.mem.foot _ b hon hbl).1)).setCell (p := ⟨hb, ho + 1, none⟩) (fun _ => (h.mem.head h.hd).2.2) _
end

set_option linter.unusedSimpArgs false in
set_option linter.unusedVariables false in
set_option maxHeartbeats 2000000 in
set_option maxRecDepth 100000 in
theorem rem_any (s : Bs) (K : Nat → Prop) (A : Option Addr) (c : Nat) (w : World) (root : Nat) (F : Nat → Prop) (U : Bs → Nat) (C : Bs → Bs) (L : Bs → Value) (h : CtM w root F U C L) (hU : One U s) (hM : Mono U) (hU2 : ∀ q, U q ≤ 1000000)
    (hr : Reads w K 1 A s.length (bts s)) (hK : ∀ i, K i → ¬ F i) (hn : s.length ≤ 1000000) :
    Calls Try.prog 23 #[.pointer (some ⟨root, 0, none⟩), .slice A s.length c] w fun e w' => e = .returned (.tuple #[]) ∧ (∃ C' L', CtM w' root F (fun q => U q - ind s q) C' L') ∧ Chg F w w' := by
  have HR : Hid (∀ wr, Chg F w wr → Reads wr K 1 A s.length (bts s)) := fun wr hc => hr.chg hc (fun i _ => hK i)
  have HUC := hide hU
  have HUM := hide hM
  have HU2 := hide hU2
  have HA : Hid (RemS w root F U s w 0 root 0 C L) := (⟨by rw [subU_zero]; exact h, by rw [List.take_zero]; exact Or.inl ⟨rfl, rfl, rfl⟩, Chg.refl _ _, fun j h1 h2 => by omega⟩ : RemS w root F U s w 0 root 0 C L)
  obtain ⟨i46, hi46, hz0, hz1, hz2⟩ := info_parts info46
  clear h hU hU2 hr hM
  go_enter Try.func23, Try.ntmps23
  go_wp2
  go_loopw [4, 5, 14] (fun s4 s5 s14 wr => ∃ i hb ho : Nat, s4 = .bool false ∧ s5 = .pointer (some ⟨hb, ho, none⟩) ∧ s14 = .int .i64 i ∧ i ≤ s.length ∧ Hid (∃ C L, RemS w root F U s wr i hb ho C L)) (fun _ _ s14 _ => s.length - (intOf s14).toNat)
  case atStart => exact ⟨0, root, 0, rfl, rfl, rfl, by omega, (⟨C, L, HA.out⟩ : ∃ C L, RemS w root F U s w 0 root 0 C L)⟩
  case round =>
    obtain ⟨i, hb, ho, rfl, rfl, rfl, hi, HX⟩ := hrel
    obtain ⟨C1, L1, hs⟩ := HX.out
    have HS := hide hs
    clear HA HX hs
    by_cases hlt : i < s.length
    · obtain ⟨ad, u, rfl, _, hu, ha⟩ := (HR.out wr HS.out.chg).at_ hlt
      obtain ⟨ch, hch⟩ : ∃ ch, s[i]? = some ch := ⟨_, List.getElem?_eq_getElem hlt⟩
      have hu2 : u = .int .u8 (ch.toNat : Int) := by
        rw [List.getElem?_map, hch] at hu
        simpa using hu.symm
      subst hu2
      have HCH := hide hch
      clear hu hch
      have hon := HS.out.on (List.prefix_refl _)
      obtain ⟨A2, c2, hLq, hA2⟩ := HS.out.mem.slice hon
      have c0 := (HS.out.mem.head HS.out.hd).1
      have hfew := HS.out.mem.few hon
      rw [hLq] at c0
      obtain ⟨m, hm⟩ : ∃ m, m = (C1 (s.take i)).length := ⟨_, rfl⟩
      rw [← hm] at hLq c0 hfew
      have HM := hide hm
      have HL1 := hide hLq
      have HON := hide hon
      clear hm hLq hA2 hon
      have hchl := ch.toNat_lt
      obtain ⟨wa, hwa⟩ : ∃ wa, wa = wr := ⟨_, rfl⟩
      rw [← hwa] at HS
      have HWA := hide hwa
      clear hwa
      go_wp2
      go_loopw [4, 5, 23] (fun s4 s5 s23 wx => ∃ j : Nat, s4 = .bool false ∧ s5 = .pointer (some ⟨hb, ho, none⟩) ∧ s23 = .int .i64 j ∧ j ≤ m ∧ Hid (Chg (fun _ => False) wa wx ∧ ∀ t, t < j → (C1 (s.take i))[t]? ≠ some ch)) (fun _ _ s23 _ => m - (intOf s23).toNat)
      case atStart => exact ⟨0, rfl, rfl, rfl, by omega, (⟨by rw [HWA.out]; exact Chg.refl _ _, fun t ht => by omega⟩ : Chg (fun _ => False) wa wr ∧ ∀ t, t < 0 → (C1 (s.take i))[t]? ≠ some ch)⟩
      case round =>
        obtain ⟨j, rfl, rfl, rfl, hj, HY⟩ := hrel
        clear c0 ha
        have HSX := hide (HS.out.gr HY.out.1)
        have c0 := (HSX.out.mem.head HSX.out.hd).1
        rw [HL1.out] at c0
        have fh := (HSX.out.mem.head HSX.out.hd).2.1 (ho + 1)
        by_cases hjm : j < m
        · obtain ⟨cj, hcj⟩ : ∃ cj, (C1 (s.take i))[j]? = some cj := ⟨_, List.getElem?_eq_getElem (by have := HM.out; omega)⟩
          obtain ⟨b, cp, e1, e2, _, _, k0, k1, k2, kf⟩ := HSX.out.mem.kid HON.out hcj
          rw [HL1.out] at e1
          injection e1 with e1 e11 e12
          subst e1
          clear e11 e12
          have hon3 := (HSX.out.mem.mem _ HON.out cj).1 (List.mem_of_getElem? hcj)
          obtain ⟨A3, c3, hL3, _⟩ := HSX.out.mem.slice (q := s.take i ++ [cj]) (Or.inr hon3)
          rw [hL3] at k1
          have hfew3 := HSX.out.mem.few (q := s.take i ++ [cj]) (Or.inr hon3)
          generalize (C1 (s.take i ++ [cj])).length = m3 at k1 hfew3
          clear hL3
          rw [subU_next] at k2 hon3
          have HE2 := hide e2
          have HCJ := hide hcj
          have hcjl := cj.toNat_lt
          have hlb : hb < wr.heap.size := World.block_lt_of_cell? wr _ c0
          have hlb2 : b < wr.heap.size := World.block_lt_of_cell? wr _ k0
          have f2 := kf (j * 3 + 2)
          have hun := HU2.out (s.take i ++ [cj])
          clear e2 hcj
          have hne : ¬ hb = b := fun e => HSX.out.mem.head_ne HON.out HSX.out.hd (by rw [HE2.out, e])
          have hne2 : ¬ b = hb := fun e => hne e.symm
          by_cases hce : cj = ch
          · have he : ((cj.toNat : Int) == (ch.toNat : Int)) = true := by rw [hce]; simp
            by_cases h1 : U (s.take i ++ [cj]) = 1
            · have hmc : m ≤ c2 := by
                rcases (HSX.out.mem.row _ HON.out).2 with ⟨h2, h3⟩ | ⟨g, cap, cur, h2, _, _, h3, _⟩
                · rw [HL1.out] at h2; simp at h2
                · rw [HL1.out] at h2
                  injection h2 with _ _ h2
                  have := HM.out
                  omega
              have hcb : c2 ≤ 9223372036854775807 := by
                rcases (HSX.out.mem.row _ HON.out).2 with ⟨h2, h3⟩ | ⟨g, cap, cur, h2, _, _, _, h3, _⟩
                · rw [HL1.out] at h2; simp at h2
                · rw [HL1.out] at h2
                  injection h2 with _ _ h2
                  unfold maxLen at h3
                  omega
              rw [h1] at k2
              subst hce
              have HU1 : Hid (U (s.take i ++ [cj]) = 1) := hide h1
              obtain ⟨wz, hwz⟩ : ∃ wz, wz = ((wr.setCell ⟨b, j * 3 + 2, none⟩ (.int .i64 0)).alloc (.cells #[.int .u8 (cj.toNat : Int), .slice A3 m3 c3, .int .i64 1] 46)) := ⟨_, rfl⟩
              have HCZ : Hid (Chg (fun g => g = b) wr wz) := by
                rw [hwz]
                exact ((Chg.refl (fun g => g = b) wr).setCell (p := ⟨b, j * 3 + 2, none⟩) (fun _ => rfl) _).alloc _
              have HOZ : Hid (wz.ownsRow 0 46 3 (.slice (some ⟨b, 0, none⟩) m c2) m ((kids (subU U s i) L1 (s.take i) (C1 (s.take i))).set (j * 3 + 2) (.int .i64 0))) := by
                rw [hwz]
                have h2 := own_setAt (i := j * 3 + 2) (HSX.out.mem.row _ HON.out) HE2.out (.int .i64 0)
                rw [HL1.out, ← HM.out] at h2
                exact World.ownsRow.alloc h2 _
              have HONE : Hid (∀ u ∈ (kids (subU U s i) L1 (s.take i) (C1 (s.take i))).set (j * 3 + 2) (.int .i64 0), u.oneCell' = true) := fun u hu => by
                rcases List.mem_or_eq_of_mem_set hu with h2 | h2
                · obtain ⟨x, hx, h3⟩ := List.mem_flatMap.1 h2
                  have hx2 := (HSX.out.mem.mem _ HON.out x).1 hx
                  obtain ⟨A5, c5, hL5, _⟩ := HSX.out.mem.slice (q := s.take i ++ [x]) (Or.inr hx2)
                  simp [nodeC] at h3
                  rcases h3 with rfl | rfl | rfl
                  · rfl
                  · rw [hL5]; rfl
                  · rfl
                · rw [h2]; rfl
              have c0z : wz.cell? ⟨hb, ho + 1, none⟩ = some (.slice (some ⟨b, 0, none⟩) m c2) := (HCZ.out.cell (p := ⟨hb, ho + 1, none⟩) hlb hne).trans c0
              have f0z : wz.frozen? ⟨hb, ho + 1, none⟩ = false := (HCZ.out.frozen (p := ⟨hb, ho + 1, none⟩) hlb hne).trans fh
              have hlbz : hb < wz.heap.size := Nat.lt_of_lt_of_le hlb HCZ.out.size
              have hjc : j ≤ c2 := by omega
              have hjc1 : j + 1 ≤ m := by omega
              have hjc2 : (j : Int) + 1 ≤ (m : Int) := by omega
              have hjc3 : (j : Int) ≤ (c2 : Int) := by omega
              have hmc3 : (m : Int) ≤ (c2 : Int) := by omega
              have hU3 := HUC
              clear kf HUC
              by_cases hcc : c2 = j + 1
              · subst hcc
                obtain rfl : m = j + 1 := by omega
                have hjj : (j : Int) ≤ (j : Int) + 1 := by omega
                have hw9 : IntKind.i64.wrap ((j : Int) + 1) = (j : Int) + 1 := by rw [IntKind.wrap_i64]; omega
                have hj0 : (0 : Int) ≤ (j : Int) + 1 := by omega
                have hjt : ((j : Int) + 1).toNat = j + 1 := by omega
                go_wp2
                rw [← hwz]
                clear hwz k0 k1 k2 c0 fh f2
                go_region_law
                  ((first
                    | (refine step_pull (by rfl) (.tmp 61) (.tmp 68) (by rfl) i46 hi46 hz1 b (j + 1) (j + 1) j _ (by exact HOZ.out) (by omega) HONE.out ⟨b, 0, none⟩ 0 0 (by omega) (fun h => by omega) (by rfl) (by rfl) ?_
                       intro w1 HO1 HC1 hs1
                       have c1 := (HC1.out.cell (p := ⟨hb, ho + 1, none⟩) hlbz hne).trans c0z
                       have f1 : w1.frozen? ⟨hb, ho + 1, none⟩ = false := (HC1.out.frozen (p := ⟨hb, ho + 1, none⟩) hlbz hne).trans f0z)))
                all_goals
                  have hF := HSX.out.pull (w2 := w1) (cp := j + 1) hU3.out HUM.out HCH.out HCJ.out HE2.out HU1.out (HCZ.out.trans (((Chg.refl (fun g => g = b) wz).drew).trans HC1.out (fun _ _ h => h)) (fun _ _ h => h)) (u := .int .i64 0) (by
                    rw [← HM.out]
                    exact HO1.out)
                  rw [← HM.out, show j + 1 - 1 = j by omega] at hF
                  have HF := hide hF
                  clear hF HO1 HC1 HSX HS HOZ HONE c1 f1 c0z f0z
                  go_wp2
                  go_end0
                  exact ⟨rfl, HF.out.1, HF.out.2⟩
              · have hw9 : IntKind.i64.wrap ((j : Int) + 1) = (j : Int) + 1 := by rw [IntKind.wrap_i64]; omega
                have hj0 : (0 : Int) ≤ (j : Int) + 1 := by omega
                have hjt : ((j : Int) + 1).toNat = j + 1 := by omega
                go_wp2
                rw [← hwz]
                clear hwz k0 k1 k2 c0 fh f2
                go_region_law
                  ((first
                    | (refine step_pull (by rfl) (.tmp 61) (.tmp 68) (by rfl) i46 hi46 hz1 b m c2 j _ (by exact HOZ.out) (by omega) HONE.out ⟨b, (j + 1) * 3, none⟩ (m - (j + 1)) (c2 - (j + 1)) (by omega) (fun h => rfl) (by rfl) (by rfl) ?_
                       intro w1 HO1 HC1 hs1
                       have c1 := (HC1.out.cell (p := ⟨hb, ho + 1, none⟩) hlbz hne).trans c0z
                       have f1 : w1.frozen? ⟨hb, ho + 1, none⟩ = false := (HC1.out.frozen (p := ⟨hb, ho + 1, none⟩) hlbz hne).trans f0z)))
                all_goals
                  have hF := HSX.out.pull (w2 := w1) (cp := c2) hU3.out HUM.out HCH.out HCJ.out HE2.out HU1.out (HCZ.out.trans (((Chg.refl (fun g => g = b) wz).drew).trans HC1.out (fun _ _ h => h)) (fun _ _ h => h)) (u := .int .i64 0) (by
                    rw [← HM.out]
                    exact HO1.out)
                  rw [← HM.out] at hF
                  have HF := hide hF
                  clear hF HO1 HC1 HSX HS HOZ HONE c1 f1 c0z f0z
                  go_wp2
                  go_end0
                  exact ⟨rfl, HF.out.1, HF.out.2⟩
            · have HF : Hid (RemS w root F U s ((wr.setCell ⟨b, j * 3 + 2, none⟩ (.int .i64 ((U (s.take i ++ [cj]) : Int) - 1))).alloc (.cells #[.int .u8 (cj.toNat : Int), .slice A3 m3 c3, .int .i64 (U (s.take i ++ [cj]) : Int)] 46)) (i + 1) b (j * 3) C1 L1) := by
                have h2 := HSX.out.found (j := j) HCH.out (hce ▸ HCJ.out) HE2.out (by rw [← hce]; omega)
                rw [← hce] at h2
                rw [show ((U (s.take i ++ [cj]) - 1 : Nat) : Int) = (U (s.take i ++ [cj]) : Int) - 1 by omega] at h2
                exact h2.gr ((Chg.refl (fun _ => False) _).alloc (.cells #[.int .u8 (cj.toNat : Int), .slice A3 m3 c3, .int .i64 (U (s.take i ++ [cj]) : Int)] 46))
              have HCE := hide hce
              clear hce HSX HS kf
              generalize U (s.take i ++ [cj]) = un at k2 hun hon3 h1 HF
              have hu0 : ((un : Int) - 1 == 0) = false := by rw [beq_eq_false_iff_ne]; omega
              go_wp2
              exact ⟨⟨i + 1, b, j * 3, rfl, rfl, by go_num, by omega, (⟨C1, L1, HF.out⟩ : ∃ C L, RemS w root F U s _ (i + 1) b (j * 3) C L)⟩, by simp [intOf]; omega⟩
          · have he : ((cj.toNat : Int) == (ch.toNat : Int)) = false := by
              rw [beq_eq_false_iff_ne]
              intro e
              exact hce (UInt8.toNat_inj.1 (by omega))
            have HY2 : Hid (Chg (fun _ => False) wa (wr.alloc (.cells #[.int .u8 (cj.toNat : Int), .slice A3 m3 c3, .int .i64 (U (s.take i ++ [cj]) : Int)] 46)) ∧ ∀ t, t < j + 1 → (C1 (s.take i))[t]? ≠ some ch) :=
              (⟨HY.out.1.alloc _, fun t ht => by
                rcases Nat.lt_succ_iff_lt_or_eq.1 ht with h1 | h1
                · exact HY.out.2 t h1
                · subst h1
                  rw [HCJ.out]
                  intro e
                  injection e with e
                  exact hce e⟩ : Chg (fun _ => False) wa (wr.alloc (.cells #[.int .u8 (cj.toNat : Int), .slice A3 m3 c3, .int .i64 (U (s.take i ++ [cj]) : Int)] 46)) ∧ ∀ t, t < j + 1 → (C1 (s.take i))[t]? ≠ some ch)
            go_wp2
            exact ⟨⟨j + 1, rfl, rfl, by go_num, by omega, HY2⟩, by simp [intOf]; omega⟩
        · obtain rfl : m = j := by omega
          exfalso
          have h1 : 0 < U (s.take i ++ [ch]) := HUC.out.1 _ (snoc_ne _ _) (by rw [← take_succ_snoc HCH.out]; exact List.take_prefix _ _)
          rw [← subU_next (s := s) (i := i) U] at h1
          obtain ⟨t, ht⟩ := List.getElem?_of_mem ((HSX.out.mem.mem _ HON.out ch).2 h1)
          exact HY.out.2 t (by have := (List.getElem?_eq_some_iff.1 ht).1; have := HM.out; omega) ht
    · have h1 := HS.out.mem
      rw [show i = s.length by omega, subU_full] at h1
      have HF := hide h1
      have HC := hide HS.out.chg
      clear HS h1
      go_wp2
      go_end0
      exact ⟨rfl, ⟨_, _, HF.out⟩, HC.out⟩
end Go.Proofs.Ytaihafoopoaahaa
