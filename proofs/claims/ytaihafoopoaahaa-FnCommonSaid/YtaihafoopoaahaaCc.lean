/- The walk of charNode.Add. Under sizes alone. -/
import Derived.Test.YtaihafoopoaahaaCb
import Derived.Deep.RegionLaw
import Derived.Deep.RegionHeld3
import Derived.Deep.AppendLies
import Derived.Maps.AppendAt
namespace Go.Proofs.Ytaihafoopoaahaa
open Go.RowKit

theorem info46 : (Try.prog.info? 46).map (fun i => (i.zero, i.size, i.bytes)) = some (some (.agg #[.int .u8 0, .slice none 0 0, .int .i64 0]), 3, 40) := by kernel_rfl

theorem step_appendN {w : World} {ops : Array Oper} {o : Oper} {a : Act} {K : Act → World → Prop} {Q : Exit → Act → World → Prop} {E : Prop} (hgd : o.guard = none) (s x : Operand) (t : TypeId)
    (ho : o.op = .call { callee := .builtin .append, args := #[s, x], argTypes := #[t, t] })
    (base : Nat) (e : TypeId) (i : TypeInfo) (z : Value) (size bytes : Nat) (ht : Try.prog.underlying t = some (.slice e)) (hi : Try.prog.info? e = some i) (hz : i.zero = some z) (hs : i.size = size) (hby : i.bytes = bytes) (hzs : z.cells.size = size) (hsp : 0 < size)
    (v : Value) (hsv : a.eval s = v) (n : Nat) (xs : List Value) (hown : w.ownsRow base e size v n xs) (hbase : base ≤ w.heap.size) (ad : Addr) (m c : Nat) (ys : List Value) (hxv : a.eval x = .slice (some ad) m c) (hl : ys.length = m * size) (hr : ∀ j u, ys[j]? = some u → w.cell? (ad.add j) = some u) (h1 : ∀ u ∈ ys, u.oneCell' = true) (hm : n + m ≤ maxLen) (hbytes : (n + m) * bytes ≤ 140737488355328)
    (h : ∀ v' w', Hid (w'.ownsRow base e size v' (n + m) (xs ++ ys)) → Hid (Chg (fun g => v.ownBlock = some g) w w') → Hid (v'.ownBlock = v.ownBlock ∨ v'.ownBlock = some w.heap.size) → K (a.put o.dst v') w') :
    if Region.wanted o (yielded ops a.tmps) = true then Oper.wp Try.prog o a w K Q else E := by
  have hw : Region.wanted o (yielded ops a.tmps) = true := by simp [Region.wanted, hgd]
  rw [if_pos hw]
  obtain ⟨v', w', h2, h3, h4, _, h5⟩ := run_append_own_at (P := Try.prog) w base t o.type e i z size bytes ht hi hz hs hby hzs hsp v n xs hown ad m c ys hl hr h1 hm hbytes hbase
  unfold Oper.wp execOp
  simp only [ho, resolve, invoke, builtin, Sem.run_bind, Sem.run_pure, Result.andThen_ok, List.map_toArray, List.map_cons, List.map_nil, hsv, hxv, h2]
  exact h v' w' h3 (Chg.ofGrown (S := fun g => v.ownBlock = some g) h4 (fun g hg _ => hg)) h5
theorem news_blk {w : World} {g t : Nat} {cs : Array Value} (h : Blk w g t cs) : ∀ j u, cs.toList[j]? = some u → w.cell? ((⟨g, 0, none⟩ : Addr).add j) = some u := fun j u hj => by
  rw [add_plain, Nat.zero_add, h.cell]
  rw [Array.getElem?_toList] at hj
  exact hj

theorem addU_on (U : Bs → Nat) (s : Bs) (i : Nat) {q : Bs} (h : q <+: s.take i) : On (addU U s i) q := by
  by_cases h0 : q = []
  · exact Or.inl h0
  · refine Or.inr ?_
    unfold addU
    rw [ind_yes h0 h]
    omega

/-- The state of Add behind i places of the text. -/
structure AddS (w : World) (root : Nat) (F : Nat → Prop) (U : Bs → Nat) (s : Bs) (wr : World) (i hb ho : Nat) (C : Bs → Bs) (L : Bs → Value) : Prop where
  mem : CtM wr root (fun g => F g ∨ w.heap.size ≤ g) (addU U s i) C L
  hd : HeadAt (addU U s i) root C L (s.take i) hb ho
  chg : Chg F w wr

section
variable {w wr wx : World} {root : Nat} {F : Nat → Prop} {U : Bs → Nat} {s : Bs} {i hb ho : Nat} {C : Bs → Bs} {L : Bs → Value}
theorem AddS.on (_h : AddS w root F U s wr i hb ho C L) : On (addU U s i) (s.take i) := addU_on U s i (List.prefix_refl _)
theorem AddS.gr (h : AddS w root F U s wr i hb ho C L) (hg : Chg (fun _ => False) wr wx) : AddS w root F U s wx i hb ho C L :=
  ⟨h.mem.chg hg (fun _ _ h => h), h.hd, h.chg.trans hg (fun _ _ h => h.elim)⟩
theorem addU_upd (U : Bs → Nat) {s : Bs} {i : Nat} {ch : UInt8} (hch : s[i]? = some ch) : addU U s (i + 1) = updU (addU U s i) (s.take i ++ [ch]) (addU U s i (s.take i ++ [ch]) + 1) := by
  funext q
  rw [addU_succ U hch]
  unfold updU
  split
  · rename_i h; rw [h]
  · rfl
theorem AddS.found {b j : Nat} {ch : UInt8} (h : AddS w root F U s wr i hb ho C L) (hch : s[i]? = some ch) (hj : (C (s.take i))[j]? = some ch) (hbl : (L (s.take i)).ownBlock = some b) :
    AddS w root F U s (wr.setCell ⟨b, j * 3 + 2, none⟩ (.int .i64 ((addU U s i (s.take i ++ [ch]) + 1 : Nat) : Int))) (i + 1) b (j * 3) C L := by
  refine ⟨?_, ?_, h.chg.setCell (p := ⟨b, j * 3 + 2, none⟩) (fun hlt => ((h.mem.foot _ b h.on hbl).1).elim id (fun h1 => absurd h1 (by have : b < w.heap.size := hlt; omega))) _⟩
  · rw [addU_upd U hch]
    exact h.mem.used h.on hj hbl _ (Nat.succ_pos _)
  · rw [take_succ_snoc hch]
    exact HeadAt.kid (addU_on U s (i + 1) (by rw [take_succ_snoc hch]; exact List.prefix_append _ _)) hj hbl
theorem AddS.zero {ch : UInt8} (h : AddS w root F U s wr i hb ho C L) (hU : Clo U) (hch : s[i]? = some ch) (hno : ch ∉ C (s.take i)) : ∀ k, i + k < s.length → U (s.take (i + k + 1)) = 0 := by
  intro k
  induction k with
  | zero =>
    intro _
    have := (not_congr (h.mem.mem _ h.on ch)).1 hno
    unfold addU at this
    rw [Nat.add_zero, take_succ_snoc hch]
    omega
  | succ k ih =>
    intro hlt
    have h1 := ih (by omega)
    obtain ⟨c2, hc2⟩ : ∃ c2, s[i + k + 1]? = some c2 := ⟨_, List.getElem?_eq_getElem (by omega)⟩
    rw [show i + (k + 1) + 1 = i + k + 1 + 1 by omega, take_succ_snoc hc2]
    rcases Nat.eq_zero_or_pos (U (s.take (i + k + 1) ++ [c2])) with h2 | h2
    · exact h2
    · rcases hU _ _ h2 with h3 | h3
      · have := congrArg List.length h3
        rw [List.length_take, List.length_nil] at this
        omega
      · omega
theorem AddS.new {ch : UInt8} (h : AddS w root F U s wr i hb ho C L) (hch : s[i]? = some ch) (h0 : U (s.take (i + 1)) = 0) : ch ∉ C (s.take i) := by
  intro hm
  have h1 := (h.mem.mem _ h.on ch).1 hm
  rw [take_succ_snoc hch] at h0
  unfold addU at h1
  rw [h0, ind_no (fun hp => by have := hp.length_le; simp at this; omega)] at h1
  omega
theorem own_set3 {n g : Nat} {v : Value} {xs : List Value} {a b c a' b' c' : Value} (h : wr.ownsRow 0 46 3 v (n + 1) (xs ++ [a, b, c])) (hg : v.ownBlock = some g) (hx : xs.length = n * 3) :
    (((wr.setCell ⟨g, n * 3, none⟩ a').setCell ⟨g, n * 3 + 1, none⟩ b').setCell ⟨g, n * 3 + 2, none⟩ c').ownsRow 0 46 3 v (n + 1) (xs ++ [a', b', c']) := by
  have h1 := own_setAt (i := n * 3 + 2) (own_setAt (i := n * 3 + 1) (own_setAt (i := n * 3) h hg a') hg b') hg c'
  have e : (((xs ++ [a, b, c]).set (n * 3) a').set (n * 3 + 1) b').set (n * 3 + 2) c' = xs ++ [a', b', c'] := by
    rw [← hx, List.set_append_right _ _ (Nat.le_refl _), List.set_append_right _ _ (by omega), List.set_append_right _ _ (by omega)]
    simp
  rw [e] at h1
  exact h1
theorem chg_set3 {S : Nat → Prop} {w1 : World} {n g : Nat} {a' b' c' : Value} (h : Chg S wr w1) (hg : g < wr.heap.size → S g) : Chg S wr (((w1.setCell ⟨g, n * 3, none⟩ a').setCell ⟨g, n * 3 + 1, none⟩ b').setCell ⟨g, n * 3 + 2, none⟩ c') :=
  ((h.setCell (p := ⟨g, n * 3, none⟩) hg _).setCell (p := ⟨g, n * 3 + 1, none⟩) hg _).setCell (p := ⟨g, n * 3 + 2, none⟩) hg _
theorem set_comm (w : World) (a b : Addr) (h : a.block ≠ b.block) (u v : Value) : (w.setCell a u).setCell b v = (w.setCell b v).setCell a u := by
  unfold World.setCell
  simp only
  congr 1
  apply Array.ext_getElem?
  intro i
  simp only [Array.getElem?_modify]
  by_cases h1 : a.block = i
  · have h2 : b.block ≠ i := fun e => h (h1.trans e.symm)
    simp [h1, h2]
  · simp [h1]
theorem cell_set_same {w : World} {b i : Nat} {u0 : Value} (h : w.cell? ⟨b, i, none⟩ = some u0) (u : Value) : (w.setCell ⟨b, i, none⟩ u).cell? ⟨b, i, none⟩ = some u := by
  simp [go_sem, h]
theorem AddS.push {w2 : World} {g : Nat} {ch : UInt8} {v : Value} (h : AddS w root F U s wr i hb ho C L) (hU : Clo U) (hch : s[i]? = some ch) (hno : ch ∉ C (s.take i)) (hc : Chg (fun g => (L (s.take i)).ownBlock = some g) wr w2)
    (hv : w2.ownsRow 0 46 3 v ((C (s.take i)).length + 1) (kids (addU U s i) L (s.take i) (C (s.take i)) ++ [.int .u8 (ch.toNat : Int), .slice none 0 0, .int .i64 1])) (hg : v.ownBlock = some g)
    (hvb : (L (s.take i)).ownBlock = some g ∨ wr.heap.size ≤ g) :
    ∃ C' L', AddS w root F U s (w2.setCell ⟨hb, ho + 1, none⟩ v) (i + 1) g ((C (s.take i)).length * 3) C' L' := by
  have h0 : addU U s i (s.take i ++ [ch]) = 0 := by
    have := (not_congr (h.mem.mem _ h.on ch)).1 hno
    omega
  have hp : ∀ x, ¬ s.take i ++ [ch] ++ [x] <+: s.take i := fun x hp => by
    have := hp.length_le
    simp at this
    omega
  have h1 : ∀ x, addU U s i (s.take i ++ [ch] ++ [x]) = 0 := fun x => by
    unfold addU at h0 ⊢
    rw [ind_no (hp x)]
    rcases Nat.eq_zero_or_pos (U (s.take i ++ [ch] ++ [x])) with h2 | h2
    · omega
    · rcases hU _ _ h2 with h3 | h3
      · simp at h3
      · omega
  have hm := h.mem.push (c := ch) h.on h.hd h0 h1 hc hv (fun b hb => by
    rw [hg] at hb
    injection hb with hb
    subst hb
    exact hvb)
  have hs : w.heap.size ≤ wr.heap.size := h.chg.size
  have hl1 : s.take i ≠ s.take i ++ [ch] := fun e => by have := congrArg List.length e; simp at this
  have hm2 : CtM (w2.setCell ⟨hb, ho + 1, none⟩ v) root (fun g => F g ∨ w.heap.size ≤ g) (addU U s (i + 1)) (fun r => if r = s.take i ++ [ch] then [] else if r = s.take i then C (s.take i) ++ [ch] else C r) (updL (updL L (s.take i) v) (s.take i ++ [ch]) (.slice none 0 0)) := by
    rw [addU_upd U hch, h0]
    exact hm.wide (fun b hb => hb.elim id (fun h2 => Or.inr (by omega)))
  have hd2 : HeadAt (addU U s (i + 1)) root (fun r => if r = s.take i ++ [ch] then [] else if r = s.take i then C (s.take i) ++ [ch] else C r) (updL (updL L (s.take i) v) (s.take i ++ [ch]) (.slice none 0 0)) (s.take (i + 1)) g ((C (s.take i)).length * 3) := by
    rw [take_succ_snoc hch]
    refine Or.inr ⟨s.take i, ch, (C (s.take i)).length, rfl, addU_on U s (i + 1) (by rw [take_succ_snoc hch]; exact List.prefix_append _ _), ?_, ?_, rfl⟩
    · unfold updL
      rw [if_neg hl1, if_pos rfl]
      exact hg
    · simp only [if_neg hl1, if_true]
      simp
  refine ⟨_, _, hm2, hd2, ?_⟩
  have hF := (h.mem.head h.hd).2.2
  exact (h.chg.trans hc (fun b hlt hb => (h.mem.foot _ b h.on hb).1.elim id (fun h2 => absurd hlt (by omega)))).setCell (p := ⟨hb, ho + 1, none⟩) (fun hlt => hF.elim id (fun h2 => absurd h2 (by have : hb < w.heap.size := hlt; omega))) _
end

set_option linter.unusedSimpArgs false in
set_option linter.unusedVariables false in
set_option maxHeartbeats 2000000 in
set_option maxRecDepth 100000 in
theorem add_any (s : Bs) (K : Nat → Prop) (A : Option Addr) (c : Nat) (w : World) (root : Nat) (F : Nat → Prop) (U : Bs → Nat) (C : Bs → Bs) (L : Bs → Value) (h : CtM w root F U C L) (hU : Clo U) (hU2 : ∀ q, U q ≤ 1000000)
    (hr : Reads w K 1 A s.length (bts s)) (hK : ∀ i, K i → ¬ F i) (hn : s.length ≤ 1000000) (hcap : s.length ≤ c) :
    Calls Try.prog 24 #[.pointer (some ⟨root, 0, none⟩), .slice A s.length c] w fun e w' => e = .returned (.tuple #[]) ∧ (∃ C' L', CtM w' root (fun g => F g ∨ w.heap.size ≤ g) (fun q => U q + ind s q) C' L') ∧ Chg F w w' := by
  have HR : Hid (∀ wr, Chg F w wr → Reads wr K 1 A s.length (bts s)) := fun wr hc => hr.chg hc (fun i _ => hK i)
  have HUC := hide hU
  have HU2 := hide hU2
  have HA : Hid (AddS w root F U s w 0 root 0 C L) := (⟨by rw [addU_zero]; exact h.wide (fun g hg => Or.inl hg), by rw [List.take_zero]; exact Or.inl ⟨rfl, rfl, rfl⟩, Chg.refl _ _⟩ : AddS w root F U s w 0 root 0 C L)
  obtain ⟨i46, hi46, hz0, hz1, hz2⟩ := info_parts info46
  clear h hU hU2 hr
  go_enter Try.func24, Try.ntmps24
  go_wp2
  go_loopw [4, 13] (fun s4 s13 wr => ∃ i hb ho : Nat, s4 = .pointer (some ⟨hb, ho, none⟩) ∧ s13 = .int .i64 i ∧ i ≤ s.length ∧ Hid (∃ C L, AddS w root F U s wr i hb ho C L)) (fun _ s13 _ => s.length - (intOf s13).toNat)
  case atStart => exact ⟨0, root, 0, rfl, rfl, by omega, (⟨C, L, HA.out⟩ : ∃ C L, AddS w root F U s w 0 root 0 C L)⟩
  case round =>
    obtain ⟨i, hb, ho, rfl, rfl, hi, HX⟩ := hrel
    obtain ⟨C1, L1, hs⟩ := HX.out
    have HS := hide hs
    clear HA HX hs
    by_cases hlt : i < s.length
    · obtain ⟨ad, u, rfl, _, hu, ha⟩ := (HR.out wr HS.out.chg).at_ hlt
      obtain ⟨ch, hch⟩ : ∃ ch, s[i]? = some ch := ⟨_, List.getElem?_eq_getElem hlt⟩
      have hu2 : u = .int .u8 (ch.toNat : Int) := by
        rw [List.getElem?_map, hch] at hu
        simpa using hu.symm
      subst hu2
      have HCH := hide hch
      clear hu hch
      obtain ⟨A2, c2, hLq, hA2⟩ := HS.out.mem.slice HS.out.on
      have c0 := (HS.out.mem.head HS.out.hd).1
      have hfew := HS.out.mem.few HS.out.on
      rw [hLq] at c0
      obtain ⟨m, hm⟩ : ∃ m, m = (C1 (s.take i)).length := ⟨_, rfl⟩
      rw [← hm] at hLq c0 hfew
      have HM := hide hm
      have HL1 := hide hLq
      clear hm hLq
      have hchl := ch.toNat_lt
      obtain ⟨wa, hwa⟩ : ∃ wa, wa = wr := ⟨_, rfl⟩
      rw [← hwa] at HS
      have HWA := hide hwa
      clear hwa
      go_wp2
      go_loopw [4, 7, 23] (fun s4 s7 s23 wx => ∃ j : Nat, s4 = .pointer (some ⟨hb, ho, none⟩) ∧ s7 = .bool false ∧ s23 = .int .i64 j ∧ j ≤ m ∧ Hid (Chg (fun _ => False) wa wx ∧ ∀ t, t < j → (C1 (s.take i))[t]? ≠ some ch)) (fun _ _ s23 _ => m - (intOf s23).toNat)
      case atStart => exact ⟨0, rfl, rfl, rfl, by omega, (⟨by rw [HWA.out]; exact Chg.refl _ _, fun t ht => by omega⟩ : Chg (fun _ => False) wa wr ∧ ∀ t, t < 0 → (C1 (s.take i))[t]? ≠ some ch)⟩
      case round =>
        obtain ⟨j, rfl, rfl, rfl, hj, HY⟩ := hrel
        clear c0 ha
        have HSX := hide (HS.out.gr HY.out.1)
        have c0 := (HSX.out.mem.head HSX.out.hd).1
        rw [HL1.out] at c0
        by_cases hjm : j < m
        · obtain ⟨cj, hcj⟩ : ∃ cj, (C1 (s.take i))[j]? = some cj := ⟨_, List.getElem?_eq_getElem (by have := HM.out; omega)⟩
          obtain ⟨b, cp, e1, e2, _, _, k0, k1, k2, kf⟩ := HSX.out.mem.kid HSX.out.on hcj
          rw [HL1.out] at e1
          injection e1 with e1 e11 e12
          subst e1
          clear e11 e12
          have hon3 := (HSX.out.mem.mem _ HSX.out.on cj).1 (List.mem_of_getElem? hcj)
          obtain ⟨A3, c3, hL3, _⟩ := HSX.out.mem.slice (q := s.take i ++ [cj]) (Or.inr hon3)
          rw [hL3] at k1
          have hfew3 := HSX.out.mem.few (q := s.take i ++ [cj]) (Or.inr hon3)
          generalize (C1 (s.take i ++ [cj])).length = m3 at k1 hfew3
          clear hL3 hon3
          have HE2 := hide e2
          have HCJ := hide hcj
          have hcjl := cj.toNat_lt
          have hlb : hb < wr.heap.size := World.block_lt_of_cell? wr _ c0
          have hlb2 : b < wr.heap.size := World.block_lt_of_cell? wr _ k0
          have f2 := kf (j * 3 + 2)
          have hun : addU U s i (s.take i ++ [cj]) ≤ 1000001 := by
            have h1 := HU2.out (s.take i ++ [cj])
            have h2 := ind_le (s.take i) (s.take i ++ [cj])
            unfold addU
            omega
          clear e2 hcj hA2 kf
          have hne : ¬ hb = b := fun e => HSX.out.mem.head_ne HSX.out.on HSX.out.hd (by rw [HE2.out, e])
          by_cases hce : cj = ch
          · have he : ((cj.toNat : Int) == (ch.toNat : Int)) = true := by rw [hce]; simp
            have HF : Hid (AddS w root F U s ((wr.setCell ⟨b, j * 3 + 2, none⟩ (.int .i64 ((addU U s i (s.take i ++ [cj]) : Int) + 1))).alloc (.cells #[.int .u8 (cj.toNat : Int), .slice A3 m3 c3, .int .i64 (addU U s i (s.take i ++ [cj]) : Int)] 46)) (i + 1) b (j * 3) C1 L1) := by
              have h1 := HSX.out.found (j := j) HCH.out (hce ▸ HCJ.out) HE2.out
              rw [← hce] at h1
              exact h1.gr ((Chg.refl (fun _ => False) _).alloc (.cells #[.int .u8 (cj.toNat : Int), .slice A3 m3 c3, .int .i64 (addU U s i (s.take i ++ [cj]) : Int)] 46))
            have HCE := hide hce
            clear hce HSX HS
            generalize addU U s i (s.take i ++ [cj]) = un at k2 hun HF
            go_wp2
            exact ⟨⟨i + 1, b, j * 3, rfl, by go_num, by omega, (⟨C1, L1, HF.out⟩ : ∃ C L, AddS w root F U s _ (i + 1) b (j * 3) C L)⟩, by simp [intOf]; omega⟩
          · have he : ((cj.toNat : Int) == (ch.toNat : Int)) = false := by
              rw [beq_eq_false_iff_ne]
              intro e
              exact hce (UInt8.toNat_inj.1 (by omega))
            have HY2 : Hid (Chg (fun _ => False) wa (wr.alloc (.cells #[.int .u8 (cj.toNat : Int), .slice A3 m3 c3, .int .i64 (addU U s i (s.take i ++ [cj]) : Int)] 46)) ∧ ∀ t, t < j + 1 → (C1 (s.take i))[t]? ≠ some ch) :=
              (⟨HY.out.1.alloc _, fun t ht => by
                rcases Nat.lt_succ_iff_lt_or_eq.1 ht with h1 | h1
                · exact HY.out.2 t h1
                · subst h1
                  rw [HCJ.out]
                  intro e
                  injection e with e
                  exact hce e⟩ : Chg (fun _ => False) wa (wr.alloc (.cells #[.int .u8 (cj.toNat : Int), .slice A3 m3 c3, .int .i64 (addU U s i (s.take i ++ [cj]) : Int)] 46)) ∧ ∀ t, t < j + 1 → (C1 (s.take i))[t]? ≠ some ch)
            go_wp2
            exact ⟨⟨j + 1, rfl, rfl, by go_num, by omega, HY2⟩, by simp [intOf]; omega⟩
        · obtain rfl : m = j := by omega
          have hci : ¬ c = i := by omega
          have HNO : Hid (ch ∉ C1 (s.take i)) := fun hm => by
            obtain ⟨t, ht⟩ := List.getElem?_of_mem hm
            exact HY.out.2 t (by have := (List.getElem?_eq_some_iff.1 ht).1; have := HM.out; omega) ht
          have hlb : hb < wr.heap.size := World.block_lt_of_cell? wr _ c0
          have HU0 : Hid (∀ k, i + k < s.length → U (s.take (i + k + 1)) = 0) := HSX.out.zero HUC.out HCH.out HNO.out
          have HI : Hid (∃ C L, AddS w root F U s wr (i + 0) hb ho C L) := (⟨C1, L1, HSX.out⟩ : ∃ C L, AddS w root F U s wr (i + 0) hb ho C L)
          clear HS hA2 HWA HNO HSX HL1 HY c0 HM HCH
          go_wp2
          go_loopw [4, 56] (fun s4 s56 wx => ∃ k hb ho : Nat, s4 = .pointer (some ⟨hb, ho, none⟩) ∧ s56 = .int .i64 k ∧ i + k ≤ s.length ∧ Hid (∃ C L, AddS w root F U s wx (i + k) hb ho C L)) (fun _ s56 _ => s.length - i - (intOf s56).toNat)
          case atStart => exact ⟨0, hb, ho, rfl, rfl, by omega, HI⟩
          case round =>
            obtain ⟨k, hb2, ho2, rfl, rfl, hk, HY⟩ := hrel
            obtain ⟨C2, L2, hs⟩ := HY.out
            have HS := hide hs
            clear HI HY hs
            by_cases hlt2 : i + k < s.length
            · obtain ⟨ad', u, e1, _, hu, ha⟩ := (HR.out wr HS.out.chg).at_ hlt2
              injection e1 with e1
              subst e1
              obtain ⟨ch, hch⟩ : ∃ ch, s[i + k]? = some ch := ⟨_, List.getElem?_eq_getElem hlt2⟩
              have hu2 : u = .int .u8 (ch.toNat : Int) := by
                rw [List.getElem?_map, hch] at hu
                simpa using hu.symm
              subst hu2
              have ha2 : wr.cell? ((ad.add i).add k) = some (.int .u8 (ch.toNat : Int)) := by rw [add_of_add]; exact ha
              have HCH := hide hch
              obtain ⟨A2, c2, hLq, hA2⟩ := HS.out.mem.slice HS.out.on
              have c0 := (HS.out.mem.head HS.out.hd).1
              have f0 := (HS.out.mem.head HS.out.hd).2.1 (ho2 + 1)
              have hfew2 := HS.out.mem.few HS.out.on
              rw [hLq] at c0
              have hlb2 : hb2 < wr.heap.size := World.block_lt_of_cell? wr _ c0
              obtain ⟨m2, hm2⟩ : ∃ m2, m2 = (C2 (s.take (i + k))).length := ⟨_, rfl⟩
              rw [← hm2] at hLq c0 hfew2
              have HM2 := hide hm2
              have HL2 := hide hLq
              clear hm2 hLq hu hch ha
              have hchl2 := ch.toNat_lt
              have HOWN : Hid (wr.ownsRow 0 46 3 (.slice A2 m2 c2) m2 (kids (addU U s (i + k)) L2 (s.take (i + k)) (C2 (s.take (i + k))))) := by
                have h1 := HS.out.mem.row _ HS.out.on
                rw [HL2.out, ← HM2.out] at h1
                exact h1
              have HNE : Hid ((Value.slice A2 m2 c2).ownBlock ≠ some hb2) := by
                have h1 := HS.out.mem.head_ne HS.out.on HS.out.hd
                rw [HL2.out] at h1
                exact h1
              clear hA2
              have hlt3 : (m2 : Int) < (m2 : Int) + 1 := by omega
              go_wp2
              go_region_law
                ((first
                  | (refine step_appendN (by rfl) (.tmp 63) (.tmp 67) 44 (by rfl) 0 46 i46 _ 3 40 Try.underlying44 hi46 hz0 hz1 hz2 rfl (by decide) (.slice A2 m2 c2) (by rfl) m2 (kids (addU U s (i + k)) L2 (s.take (i + k)) (C2 (s.take (i + k)))) (by exact (World.ownsRow.alloc HOWN.out _)) (Nat.zero_le _) ⟨wr.heap.size, 0, none⟩ 1 1 [.int .u8 0, .slice none 0 0, .int .i64 0] (by rfl) rfl (news_blk (t := 46) (cs := #[.int .u8 0, .slice none 0 0, .int .i64 0]) (by exact Blk.new wr _ _)) (by simp [Value.oneCell']) (by unfold maxLen; omega) (by omega) ?_
                     intro v1 w1 HO1 HC1 HV1
                     obtain ⟨g1, cp1, rfl, hv1⟩ := own_pos HO1.out (Nat.succ_pos _)
                     have hkl : (kids (addU U s (i + k)) L2 (s.take (i + k)) (C2 (s.take (i + k)))).length = m2 * 3 := by rw [kids_len, ← HM2.out]
                     have e0 : w1.cell? ⟨g1, m2 * 3, none⟩ = some (.int .u8 0) := by
                       rw [own_cellAt HO1.out hv1 (by omega), List.getElem?_append_right (by omega), hkl]; simp
                     have e1 : w1.cell? ⟨g1, m2 * 3 + 1, none⟩ = some (.slice none 0 0) := by
                       rw [own_cellAt HO1.out hv1 (by omega), List.getElem?_append_right (by omega), hkl]; simp
                     have e2 : w1.cell? ⟨g1, m2 * 3 + 2, none⟩ = some (.int .i64 0) := by
                       rw [own_cellAt HO1.out hv1 (by omega), List.getElem?_append_right (by omega), hkl]; simp
                     have f1 := own_frozenAt (i := m2 * 3) HO1.out hv1
                     have f2 := own_frozenAt (i := m2 * 3 + 1) HO1.out hv1
                     have f3 := own_frozenAt (i := m2 * 3 + 2) HO1.out hv1
                     have d0 : w1.cell? ⟨hb2, ho2 + 1, none⟩ = some (.slice A2 m2 c2) := (Chg.cell HC1.out (p := ⟨hb2, ho2 + 1, none⟩) (by simp; omega) HNE.out).trans ((World.cell?_alloc_past (w := wr) (.cells #[.int .u8 0, .slice none 0 0, .int .i64 0] 46) hb2 (ho2 + 1) hlb2).trans c0)
                     have d1 : w1.frozen? ⟨hb2, ho2 + 1, none⟩ = false := (Chg.frozen HC1.out (p := ⟨hb2, ho2 + 1, none⟩) (by simp; omega) HNE.out).trans (((HS.out.gr ((Chg.refl (fun _ => False) wr).alloc (.cells #[.int .u8 0, .slice none 0 0, .int .i64 0] 46))).mem.head HS.out.hd).2.1 (ho2 + 1))
                     have hgl := (HO1.out.lt g1 hv1).2
                     have hvb : (Value.slice A2 m2 c2).ownBlock = some g1 ∨ (wr.alloc (.cells #[.int .u8 0, .slice none 0 0, .int .i64 0] 46)).heap.size ≤ g1 := HV1.out.elim (fun h => Or.inl (h.symm.trans hv1)) (fun h => Or.inr (by
                       rw [hv1] at h
                       injection h with h
                       have h9 : g1 = (wr.alloc (.cells #[.int .u8 0, .slice none 0 0, .int .i64 0] 46)).heap.size := h
                       omega))
                     have hne1 : ¬ hb2 = g1 := fun e => hvb.elim (fun h => HNE.out (h.trans (by rw [e]))) (fun h => by simp at h; omega)
                     have hne2 : ¬ g1 = hb2 := fun e => hne1 e.symm
                     have hF : ∃ C' L', AddS w root F U s ((((w1.setCell ⟨g1, m2 * 3, none⟩ (.int .u8 (ch.toNat : Int))).setCell ⟨g1, m2 * 3 + 1, none⟩ (.slice none 0 0)).setCell ⟨g1, m2 * 3 + 2, none⟩ (.int .i64 1)).setCell ⟨hb2, ho2 + 1, none⟩ (.slice (some ⟨g1, 0, none⟩) (m2 + 1) cp1)) (i + k + 1) g1 (m2 * 3) C' L' := by
                       have h1 := (HS.out.gr ((Chg.refl (fun _ => False) wr).alloc (.cells #[.int .u8 0, .slice none 0 0, .int .i64 0] 46))).push (w2 := (((w1.setCell ⟨g1, m2 * 3, none⟩ (.int .u8 (ch.toNat : Int))).setCell ⟨g1, m2 * 3 + 1, none⟩ (.slice none 0 0)).setCell ⟨g1, m2 * 3 + 2, none⟩ (.int .i64 1))) (g := g1) (v := .slice (some ⟨g1, 0, none⟩) (m2 + 1) cp1) HUC.out HCH.out (HS.out.new HCH.out (HU0.out k hlt2)) (by
                         rw [HL2.out]
                         exact chg_set3 (((Chg.refl (fun g => (Value.slice A2 m2 c2).ownBlock = some g) (wr.alloc (.cells #[.int .u8 0, .slice none 0 0, .int .i64 0] 46))).drew).trans HC1.out (fun _ _ h => h)) (fun hlt => hvb.elim id (fun h => absurd hlt (by omega)))) (by
                         rw [← HM2.out]
                         exact own_set3 HO1.out hv1 hkl) hv1 (by rw [HL2.out]; exact hvb)
                       rw [← HM2.out] at h1
                       exact h1
                     have e5 : ((((w1.setCell ⟨g1, m2 * 3, none⟩ (.int .u8 (ch.toNat : Int))).setCell ⟨g1, m2 * 3 + 1, none⟩ (.slice none 0 0)).setCell ⟨g1, m2 * 3 + 2, none⟩ (.int .i64 1)).setCell ⟨hb2, ho2 + 1, none⟩ (.slice (some ⟨g1, 0, none⟩) (m2 + 1) cp1)).cell? ⟨hb2, ho2 + 1, none⟩ = some (.slice (some ⟨g1, 0, none⟩) (m2 + 1) cp1) :=
                       cell_set_same (u0 := .slice A2 m2 c2) (by
                         rw [World.cell?_setCell_far _ _ _ _ hne2, World.cell?_setCell_far _ _ _ _ hne2, World.cell?_setCell_far _ _ _ _ hne2]
                         exact d0) _
                     have hw : ((((w1.setCell ⟨hb2, ho2 + 1, none⟩ (.slice (some ⟨g1, 0, none⟩) (m2 + 1) cp1)).setCell ⟨g1, m2 * 3, none⟩ (.int .u8 (ch.toNat : Int))).setCell ⟨g1, m2 * 3 + 1, none⟩ (.slice none 0 0)).setCell ⟨g1, m2 * 3 + 2, none⟩ (.int .i64 1)) = ((((w1.setCell ⟨g1, m2 * 3, none⟩ (.int .u8 (ch.toNat : Int))).setCell ⟨g1, m2 * 3 + 1, none⟩ (.slice none 0 0)).setCell ⟨g1, m2 * 3 + 2, none⟩ (.int .i64 1)).setCell ⟨hb2, ho2 + 1, none⟩ (.slice (some ⟨g1, 0, none⟩) (m2 + 1) cp1)) := by
                       rw [set_comm w1 ⟨hb2, ho2 + 1, none⟩ ⟨g1, m2 * 3, none⟩ hne1, set_comm _ ⟨hb2, ho2 + 1, none⟩ ⟨g1, m2 * 3 + 1, none⟩ hne1, set_comm _ ⟨hb2, ho2 + 1, none⟩ ⟨g1, m2 * 3 + 2, none⟩ hne1]
                     have HW := hide hw
                     have HF := hide hF
                     have HE5 := hide e5
                     clear hkl hw hF e5 hvb)
                  | fail))
              all_goals (try rw [HW.out])
              all_goals
                generalize ((((w1.setCell ⟨g1, m2 * 3, none⟩ (.int .u8 (ch.toNat : Int))).setCell ⟨g1, m2 * 3 + 1, none⟩ (.slice none 0 0)).setCell ⟨g1, m2 * 3 + 2, none⟩ (.int .i64 1)).setCell ⟨hb2, ho2 + 1, none⟩ (.slice (some ⟨g1, 0, none⟩) (m2 + 1) cp1)) = wf at *
                have e5 := HE5.out
                clear HW HE5 HO1 HC1 HV1 hv1 e0 e1 e2 f0 f1 f2 f3 d0 d1 hgl hne1 hne2 HS HOWN HNE HL2 HM2 c0
                go_wp2
                go_quiet (fail)
                go_wp2
                exact ⟨⟨k + 1, g1, m2 * 3, rfl, by go_num, by omega, (⟨_, _, HF.out.choose_spec.choose_spec.gr ((Chg.refl (fun _ => False) wf).drewN nq)⟩ : ∃ C L, AddS w root F U s (wf.drewN nq) (i + (k + 1)) g1 (m2 * 3) C L)⟩, by simp [intOf]; omega⟩
            · obtain ⟨n0, hn0⟩ : ∃ n0, n0 = i + k := ⟨_, rfl⟩
              have h1 := HS.out.mem
              rw [← hn0, show n0 = s.length by omega, addU_full] at h1
              have HF := hide h1
              have HC := hide HS.out.chg
              clear HS h1 hn0
              go_wp2
              go_end0
              exact ⟨rfl, ⟨_, _, HF.out⟩, HC.out⟩
    · have h1 := HS.out.mem
      rw [show i = s.length by omega, addU_full] at h1
      have HF := hide h1
      have HC := hide HS.out.chg
      clear HS h1
      go_wp2
      go_end0
      exact ⟨rfl, ⟨_, _, HF.out⟩, HC.out⟩
end Go.Proofs.Ytaihafoopoaahaa
