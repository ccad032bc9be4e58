/- The walk of lcss. Under sizes alone. -/
import Derived.Test.YtaihafoopoaahaaCi
import Derived.Deep.LoopGhost
import Derived.Deep.Cut
import Derived.Deep.CutRange
namespace Go.Proofs.Ytaihafoopoaahaa
open Go.RowKit


theorem info22 : (Try.prog.info? 22).map (fun i => (i.zero, i.size, i.bytes)) = some (some (.slice none 0 0), 1, 24) := by kernel_rfl
theorem make_rows {n : Nat} (hn : n ≤ 1000000) (w : World) : (Instr.makeSlice 27 (.int .i64 (n : Int)) (.int .i64 (n : Int))).run Try.prog w = .ok (.slice (some ⟨w.heap.size, 0, none⟩) n n) (w.alloc (.cells (arrV n (fun _ => .slice none 0 0)) 22)) := make_vals 27 22 (.slice none 0 0) 24 rfl Try.underlying27 info22 hn (by omega) w
theorem eql_nil (W : World) : (binOp .eql 22 (.slice none 0 0) (.slice none 0 0)).run Try.prog W = .ok (.bool true) W := by
  rw [Lib.run_eql_slice_nil (h := Try.underlying22)]; rfl
theorem eql_some (ad : Addr) (n c : Nat) (W : World) : (binOp .eql 22 (.slice (some ad) n c) (.slice none 0 0)).run Try.prog W = .ok (.bool false) W := by
  rw [Lib.run_eql_slice_nil (h := Try.underlying22)]; rfl

theorem bpl_nil {k : Nat} {T : Nat → Bs} {p : Nat → Nat → Nat} {h : Nat → Nat} {m : Nat} (hm : m < k) (hz : h m = 0) : (bpl k T p h).set m [] = bpl k T p h := by
  apply List.ext_getElem?
  intro i
  rw [List.getElem?_set]
  by_cases e : m = i
  · subst e
    rw [if_pos rfl, if_pos (by simp [bpl, hm]), bpl_get hm, if_pos hz]
  · rw [if_neg e]
theorem bpl_len (k : Nat) (T : Nat → Bs) (p : Nat → Nat → Nat) (h : Nat → Nat) : (bpl k T p h).length = k := by simp [bpl]
theorem bpl_mem {k : Nat} {T : Nat → Bs} {p : Nat → Nat → Nat} {h : Nat → Nat} {s : Bs} (hs : s ∈ bpl k T p h) : ∃ i, i < k ∧ s = if h i = 0 then [] else sf T p i (h i - 1) := by
  obtain ⟨i, hi, rfl⟩ := List.mem_map.1 hs
  exact ⟨i, List.mem_range.1 hi, rfl⟩
theorem bpl_short {k : Nat} {T : Nat → Bs} {p : Nat → Nat → Nat} {h : Nat → Nat} {N : Nat} (hl : ∀ i, i < k → (T i).length ≤ N) (q : Bs) (hq : 0 < cntU (bpl k T p h) q) : q.length ≤ N := by
  obtain ⟨_, m, hm, hp⟩ := cntU_pos.1 hq
  obtain ⟨i, hi, rfl⟩ := bpl_mem hm
  have h1 := hp.length_le
  have h2 := hl i hi
  split at h1
  · simp at h1; simp [h1]
  · rw [List.length_drop] at h1; omega
theorem bpl_lcp {k : Nat} {T : Nat → Bs} {p : Nat → Nat → Nat} {h : Nat → Nat} {C : Bs → Bs} {q : Bs} (hk : 0 < k) (hpos : ∀ i, i < k → 0 < h i) (hle : ∀ i, i < k → h i ≤ (T i).length) (hp : ∀ i, i < k → SufArr (T i) (T i).length (p i))
    (hnd : ∀ q, On (cntU (bpl k T p h)) q → (C q).Nodup) (hmem : ∀ q, On (cntU (bpl k T p h)) q → ∀ c, c ∈ C q ↔ 0 < cntU (bpl k T p h) (q ++ [c])) (hq : LcpC C (cntU (bpl k T p h)) q) :
    (∀ i, i < k → q <:+: T i) ∧ (∀ x, (∀ i, i < k → x <+: sf T p i (h i - 1)) → x.length ≤ q.length) ∧ ∀ i, i < k → q <+: sf T p i (h i - 1) := by
  have hg : ∀ i, i < k → sf T p i (h i - 1) ∈ bpl k T p h := fun i hi => List.mem_map.2 ⟨i, List.mem_range.2 hi, if_neg (by have := hpos i hi; omega)⟩
  obtain ⟨h1, h2⟩ := lcp_plain (fun e => by have := bpl_len k T p h; rw [e] at this; simp at this; omega) (fun m hm => by
    obtain ⟨i, hi, rfl⟩ := bpl_mem hm
    have h3 := hpos i hi
    rw [if_neg (by omega)]
    have h4 := (hp i hi).pm.lt (h i - 1) (by have := hle i hi; omega)
    intro e
    have := congrArg List.length e
    rw [List.length_drop, List.length_nil] at this
    omega) hnd hmem hq
  refine ⟨fun i hi => (h1 _ (hg i hi)).isInfix.trans (List.drop_suffix _ _).isInfix, fun x hx => h2 x (fun m hm => ?_), fun i hi => h1 _ (hg i hi)⟩
  obtain ⟨i, hi, rfl⟩ := bpl_mem hm
  rw [if_neg (by have := hpos i hi; omega)]
  exact hx i hi

section
variable {w0 W : World} {k : Nat} {T : Nat → Bs} {AT : Nat → Option Addr} {cT : Nat → Nat} {p : Nat → Nat → Nat} {hb bb root : Nat} {hH hB : Nat → Nat} {M : List Bs} {z : Bs} {lg : Nat} {A : Option Addr}
theorem Lm.rem (l : Lm w0 k T AT cT p hb bb root W hH hB M z lg) (hT : Txs w0 A k T AT cT) (hM : M.length ≤ 1000000) {m pp : Nat} (hm : m < k) {am : Addr} (ham : AT m = some am) (hpp : pp < (T m).length) (hget : M[m]? = some ((T m).drop pp)) (hlen : (T m).length ≤ 1000) :
    Calls Try.prog 23 #[.pointer (some ⟨root, 0, none⟩), .slice (some (am.add pp)) ((T m).length - pp) (cT m - pp)] W fun e w' => e = .returned (.tuple #[]) ∧ Lm w0 k T AT cT p hb bb root w' hH hB (M.set m []) z lg := by
  obtain ⟨F, C, L, h1, h2, h3⟩ := l.tree
  have r1 := (hT.txt m hm).below l.bel
  rw [ham] at r1
  have o1 := l.o1
  have o2 := l.o2
  have o3 := l.o3
  have hc := rem_any ((T m).drop pp) (fun i => i < w0.heap.size) (some (am.add pp)) (cT m - pp) W root F (cntU M) C L h1 (cntU_one hget) (cntU_mono M) (fun q => Nat.le_trans (cntU_le M q) hM) (reads_suffix r1 hpp) (fun i hi hF => by have := h2 i hF; omega) (by rw [List.length_drop]; omega)
  rw [List.length_drop] at hc
  refine hc.mono ?_
  rintro e w' ⟨he, ⟨C', L', h4⟩, h5⟩
  refine ⟨he, l.tree_ h2 h3 h5 ⟨F, C', L', ?_, fun g hg => Or.inl hg⟩⟩
  rw [show cntU (M.set m []) = fun q => cntU M q - ind ((T m).drop pp) q from funext fun q => by
    have := cntU_set (s := []) hget q
    rw [ind_empty] at this
    omega]
  exact h4
theorem Lm.add (l : Lm w0 k T AT cT p hb bb root W hH hB M z lg) (hT : Txs w0 A k T AT cT) (hM : M.length ≤ 1000000) {m pp : Nat} (hm : m < k) {am : Addr} (ham : AT m = some am) (hpp : pp < (T m).length) (hget : M[m]? = some []) (hlen : (T m).length ≤ 1000) :
    Calls Try.prog 24 #[.pointer (some ⟨root, 0, none⟩), .slice (some (am.add pp)) ((T m).length - pp) (cT m - pp)] W fun e w' => e = .returned (.tuple #[]) ∧ Lm w0 k T AT cT p hb bb root w' hH hB (M.set m ((T m).drop pp)) z lg := by
  obtain ⟨F, C, L, h1, h2, h3⟩ := l.tree
  have r1 := (hT.txt m hm).below l.bel
  rw [ham] at r1
  have o1 := l.o1
  have o2 := l.o2
  have o3 := l.o3
  have hcap := hT.cap m hm
  have hc := add_any ((T m).drop pp) (fun i => i < w0.heap.size) (some (am.add pp)) (cT m - pp) W root F (cntU M) C L h1 (cntU_clo M) (fun q => Nat.le_trans (cntU_le M q) hM) (reads_suffix r1 hpp) (fun i hi hF => by have := h2 i hF; omega) (by rw [List.length_drop]; omega) (by rw [List.length_drop]; omega)
  rw [List.length_drop] at hc
  refine hc.mono ?_
  rintro e w' ⟨he, ⟨C', L', h4⟩, h5⟩
  refine ⟨he, l.tree_ h2 h3 h5 ⟨fun g => F g ∨ W.heap.size ≤ g, C', L', ?_, fun g hg => hg⟩⟩
  rw [show cntU (M.set m ((T m).drop pp)) = fun q => cntU M q + ind ((T m).drop pp) q from funext fun q => by
    have := cntU_set (s := (T m).drop pp) hget q
    rw [ind_empty] at this
    omega]
  exact h4
end

def LcssOut (k : Nat) (T : Nat → Bs) (w : World) (e : Ending) (w' : World) : Prop :=
  ∃ (z : Bs) (g : Nat), e = .returned (.slice (some ⟨g, 0, none⟩) z.length z.length) ∧ Reads w' (fun i => i = g) 1 (some ⟨g, 0, none⟩) z.length (bts z) ∧ Below w.heap.size w w' ∧ (∀ i, i < k → z <:+: T i) ∧ ∀ x, (∀ i, i < k → x <:+: T i) → x.length ≤ z.length

set_option linter.unusedSimpArgs false in
set_option linter.unusedVariables false in
set_option maxHeartbeats 4000000 in
set_option maxRecDepth 100000 in
theorem lcss_any (k : Nat) (T : Nat → Bs) (AT : Nat → Option Addr) (cT : Nat → Nat) (p : Nat → Nat → Nat) (G : Nat → Nat) (A : Option Addr) (c sb : Nat) (w : World) (hT : Txs w A k T AT cT) (hS : Sfs w sb k T G p) (hk2 : 2 ≤ k) (hk : k ≤ 1000) (hlen : ∀ i, i < k → (T i).length ≤ 1000) :
    Calls Try.prog 16 #[.slice A k c, .slice (some ⟨sb, 0, none⟩) k k] w (LcssOut k T w) := by
  have HT := hide hT
  have HSF := hide hS
  have HLEN := hide hlen
  have hk0 : ((k : Int) == 0) = false := by rw [beq_eq_false_iff_ne]; omega
  have hk1 : ((k : Int) == 1) = false := by rw [beq_eq_false_iff_ne]; omega
  have hkp : (0 : Int) < (k : Int) := by omega
  have hkp2 : 0 < k := by omega
  obtain ⟨ad, rfl, hadl, hc0⟩ := hT.cell 0 (by omega)
  have hl0 := hlen 0 (by omega)
  have hmk1 := fun W => make_ints (n := k) (by omega) W
  have hmk2 := fun W => make_rows (n := k) (by omega) W
  clear hT hS hlen
  have hc0' : w.cell? ad = some (.slice (AT 0) (T 0).length (cT 0)) := by simpa [Addr.add] using hc0
  clear hc0
  go_enter Try.func16, Try.ntmps16
  go_wp2
  go_loopw [6, 35] (fun s6 s35 wr => ∃ j ml : Nat, s35 = .int .i64 j ∧ s6 = .int .i64 ml ∧ j ≤ k ∧ ml ≤ 1000 ∧ w = wr ∧ Hid ((∀ t, t < j → ml ≤ (T t).length) ∧ ∃ t, t < k ∧ ml = (T t).length)) (fun _ s35 _ => k - (intOf s35).toNat)
  case atStart => exact ⟨0, (T 0).length, rfl, rfl, by omega, hl0, by trivial, (⟨fun t ht => by omega, 0, by omega, rfl⟩ : (∀ t, t < 0 → (T 0).length ≤ (T t).length) ∧ ∃ t, t < k ∧ (T 0).length = (T t).length)⟩
  case round =>
    obtain ⟨j, ml, rfl, rfl, hj, hml, rfl, HML⟩ := hrel
    by_cases hjk : j < k
    · obtain ⟨ad', e, _, hcj⟩ := HT.out.cell j hjk
      injection e with e
      subst e
      have hlj := HLEN.out j hjk
      obtain ⟨nj, hnj⟩ : ∃ nj, nj = (T j).length := ⟨_, rfl⟩
      rw [← hnj] at hcj hlj
      by_cases hgt : nj < ml
      · have HM2 : Hid ((∀ t, t < j + 1 → nj ≤ (T t).length) ∧ ∃ t, t < k ∧ nj = (T t).length) :=
          (⟨fun t ht => by
            rcases Nat.lt_succ_iff_lt_or_eq.1 ht with h1 | h1
            · have := HML.out.1 t h1; omega
            · subst h1; omega, j, hjk, hnj⟩ : (∀ t, t < j + 1 → nj ≤ (T t).length) ∧ ∃ t, t < k ∧ nj = (T t).length)
        clear hnj
        go_wp2
        exact ⟨⟨j + 1, nj, by go_num, rfl, by omega, hlj, by trivial, HM2⟩, by simp [intOf]; omega⟩
      · have HM2 : Hid ((∀ t, t < j + 1 → ml ≤ (T t).length) ∧ ∃ t, t < k ∧ ml = (T t).length) :=
          (⟨fun t ht => by
            rcases Nat.lt_succ_iff_lt_or_eq.1 ht with h1 | h1
            · exact HML.out.1 t h1
            · subst h1; omega, HML.out.2⟩ : (∀ t, t < j + 1 → ml ≤ (T t).length) ∧ ∃ t, t < k ∧ ml = (T t).length)
        clear hnj
        go_wp2
        exact ⟨⟨j + 1, ml, by go_num, rfl, by omega, hml, by trivial, HM2⟩, by simp [intOf]; omega⟩
    · obtain rfl : k = j := by omega
      have HMN := hide HML.out
      clear HML hc0' hj hjk
      go_wp2
      obtain ⟨W1, hW1⟩ : ∃ W1, W1 = (((w.alloc (.cells (arr k fun _ => 0) 3)).alloc (.cells (arrV k fun _ => .slice none 0 0) 22)).alloc (.cells #[.int .u8 0, .slice none 0 0, .int .i64 0] 46)).alloc (.cells #[] 5) := ⟨_, rfl⟩
      have HX : Hid (∃ (h : Nat → Nat) (z : Bs), z.length = 0 ∧ 0 = boilN h k ∧ Lm w k T AT cT p w.heap.size (w.heap.size + 1) (w.heap.size + 1 + 1) W1 h h (bpl k T p h) z (w.heap.size + 1 + 1 + 1) ∧ Mg k T p h z ∧ remN (fun i => (T i).length) h k < remN (fun i => (T i).length) (fun _ => 0) k + 1) := by
        refine hide ⟨fun _ => 0, [], rfl, ?_, ?_, Mg.start k T p hkp2 HSF.out.suf, Nat.lt_succ_self _⟩
        · have : ∀ n, boilN (fun _ => 0) n = 0 := fun n => by
            induction n with
            | zero => rfl
            | succ n ih => rw [boilN, ih]; rfl
          exact (this k).symm
        · rw [hW1]
          refine ⟨?_, ?_, ⟨_, _, _, CtM.init (bpl_zero k T p) ?_, fun g hg => Nat.le_of_eq hg.symm, fun h => by omega⟩, ⟨rfl, fun h => absurd h (by simp)⟩, ?_, Nat.le_refl _, by omega, by omega, by omega, by simp⟩
          · have h1 := (((Blk.new w 3 (arr k fun _ => 0)).alloc (.cells (arrV k fun _ => .slice none 0 0) 22)).alloc (.cells #[.int .u8 0, .slice none 0 0, .int .i64 0] 46)).alloc (.cells #[] 5)
            exact h1
          · have h1 := ((Blk.new_ (n := w.heap.size + 1) (w.alloc (.cells (arr k fun _ => 0) 3)) 22 (arrV k fun _ => .slice none 0 0) (by simp)).alloc (.cells #[.int .u8 0, .slice none 0 0, .int .i64 0] 46)).alloc (.cells #[] 5)
            rw [show (arrV k fun _ => Value.slice none 0 0) = arrV k (bV T AT cT p (fun _ => 0)) from arrV_congr (fun i _ => rfl)] at h1
            exact h1
          · exact (Blk.new_ _ 46 _ (by simp)).alloc _
          · exact ((((Below.refl _ w).alloc (Nat.le_refl _) _).alloc (by simp) _).alloc (by simp; omega) _).alloc (by simp; omega) _
      rw [← hW1]
      clear hW1 hmk1 hmk2
      go_loopg [11, 13] (remN (fun i => (T i).length) (fun _ => 0) k + 1) (fun gk s11 s13 wr => ∃ (bn zl lg : Nat), s11 = .int .i64 bn ∧ s13 = .slice (some ⟨lg, 0, none⟩) zl zl ∧ bn ≤ k ∧ zl ≤ 1000 ∧ Hid (∃ (h : Nat → Nat) (z : Bs), z.length = zl ∧ bn = boilN h k ∧ Lm w k T AT cT p w.heap.size (w.heap.size + 1) (w.heap.size + 1 + 1) wr h h (bpl k T p h) z lg ∧ Mg k T p h z ∧ remN (fun i => (T i).length) h k < gk))
      case atStart => exact ⟨0, 0, w.heap.size + 1 + 1 + 1, rfl, rfl, by omega, by omega, HX⟩
      case round =>
        obtain ⟨bn, zl, lg, rfl, rfl, hbn, hzl, HX2⟩ := hrel
        obtain ⟨h, z, hzz, hbh, hlm, hmg, hgk⟩ := HX2.out
        have HZ := hide hzz
        have HBN := hide hbh
        have HL := hide hlm
        have HG := hide hmg
        have HGK := hide hgk
        clear HX HX2 hzz hbh hlm hmg hgk
        obtain ⟨w2, hw2⟩ : ∃ w2, w2 = wr := ⟨_, rfl⟩
        subst hw2
        have HTW := hide (HT.out.below HL.out.bel)
        have HSW := hide (HSF.out.below HL.out.bel)
        go_wp2
        go_loopw [14, 15, 53] (fun s14 s15 s53 wx => ∃ (j q : Nat), s53 = .int .i64 j ∧ j ≤ k ∧ wx = w2.drewN q ∧ ((s14 = .int .i64 (-1) ∧ s15 = .slice none 0 0 ∧ Hid (∀ i, i < j → (T i).length ≤ h i)) ∨ ∃ (m : Nat) (am : Addr) (pm : Nat), s14 = .int .i64 m ∧ m < j ∧ s15 = .slice (some (am.add pm)) ((T m).length - pm) (cT m - pm) ∧ Hid (AT m = some am ∧ pm = p m (h m) ∧ h m < (T m).length ∧ ∀ i, i < j → h i < (T i).length → ¬ sf T p i (h i) < sf T p m (h m)))) (fun _ _ s53 _ => k - (intOf s53).toNat)
        case atStart => exact ⟨0, 0, rfl, by omega, rfl, Or.inl ⟨rfl, rfl, (fun i hi => by omega : ∀ i, i < 0 → (T i).length ≤ h i)⟩⟩
        case round =>
          obtain ⟨j, q, rfl, hj, rfl, hmin⟩ := hrel
          by_cases hjk : j < k
          · have hhc : w2.cell? ⟨w.heap.size, j, none⟩ = some (.int .i64 (h j : Int)) := HL.out.heads.icell hjk
            have hsc : w2.cell? ⟨sb, j, none⟩ = some (.slice (some ⟨G j, 0, none⟩) (T j).length (T j).length) := HSW.out.row.vcell hjk
            have hlj := HLEN.out j hjk
            have hhl := HG.out.le j hjk
            by_cases hex : (T j).length ≤ h j
            · rcases hmin with ⟨rfl, rfl, HN⟩ | ⟨m, am, pm, rfl, hmj, rfl, HM⟩
              · have HN2 : Hid (∀ i, i < j + 1 → (T i).length ≤ h i) := fun i hi => by
                  rcases Nat.lt_succ_iff_lt_or_eq.1 hi with h1 | h1
                  · exact HN.out i h1
                  · subst h1; exact hex
                generalize (T j).length = nj at hsc hlj hhl hex
                generalize h j = hj1 at hhc hhl hex
                have hex2 : decide ((nj : Int) ≤ (hj1 : Int)) = true := by simp; omega
                have hex3 : decide ((hj1 : Int) ≥ (nj : Int)) = true := by simp; omega
                go_wp2
                exact ⟨⟨j + 1, q, by go_num, by omega, by trivial, Or.inl ⟨rfl, rfl, HN2⟩⟩, by simp [intOf]; omega⟩
              · have HM2 : Hid (AT m = some am ∧ pm = p m (h m) ∧ h m < (T m).length ∧ ∀ i, i < j + 1 → h i < (T i).length → ¬ sf T p i (h i) < sf T p m (h m)) := by
                  obtain ⟨h1, h2, h3, h4⟩ := HM.out
                  refine hide ⟨h1, h2, h3, fun i hi h5 => ?_⟩
                  rcases Nat.lt_succ_iff_lt_or_eq.1 hi with h6 | h6
                  · exact h4 i h6 h5
                  · subst h6; omega
                generalize (T j).length = nj at hsc hlj hhl hex
                generalize h j = hj1 at hhc hhl hex
                have hex2 : decide ((nj : Int) ≤ (hj1 : Int)) = true := by simp; omega
                have hex3 : decide ((hj1 : Int) ≥ (nj : Int)) = true := by simp; omega
                go_wp2
                exact ⟨⟨j + 1, q, by go_num, by omega, by trivial, Or.inr ⟨m, am, pm, rfl, by omega, rfl, HM2⟩⟩, by simp [intOf]; omega⟩
            · have hpos := (HSF.out.suf j hjk).pm.lt (h j) (by omega)
              have hpc : w2.cell? ⟨G j, h j, none⟩ = some (.int .i64 (p j (h j) : Int)) := (HSW.out.sa j hjk).icell (by omega)
              obtain ⟨aj, haj, _⟩ := (HTW.out.txt j hjk).2 (by omega)
              obtain ⟨ad', e, _, htc⟩ := HTW.out.cell j hjk
              injection e with e
              subst e
              have hcap := HTW.out.cap j hjk
              rw [haj] at htc
              have HAJ := hide haj
              clear haj
              rcases hmin with ⟨rfl, rfl, HN⟩ | ⟨m, am, pm, rfl, hmj, rfl, HM⟩
              · have HM2 : Hid (AT j = some aj ∧ p j (h j) = p j (h j) ∧ h j < (T j).length ∧ ∀ i, i < j + 1 → h i < (T i).length → ¬ sf T p i (h i) < sf T p j (h j)) := by
                  refine hide ⟨HAJ.out, rfl, by omega, fun i hi h5 => ?_⟩
                  rcases Nat.lt_succ_iff_lt_or_eq.1 hi with h6 | h6
                  · have := HN.out i h6; omega
                  · subst h6; exact List.lt_irrefl _
                have HM3 : Hid (∃ pos nj cj, pos = p j (h j) ∧ nj = (T j).length ∧ cj = cT j) := hide ⟨_, _, _, rfl, rfl, rfl⟩
                have HM4 : Hid (∀ pos nj cj, pos = p j (h j) → nj = (T j).length → cj = cT j → Value.slice (some (aj.add pos)) (nj - pos) (cj - pos) = .slice (some (aj.add (p j (h j)))) ((T j).length - p j (h j)) (cT j - p j (h j))) := fun pos nj cj h1 h2 h3 => by rw [h1, h2, h3]
                obtain ⟨pos, hps⟩ : ∃ pos, pos = p j (h j) := ⟨_, rfl⟩
                obtain ⟨nj, hnj⟩ : ∃ nj, nj = (T j).length := ⟨_, rfl⟩
                obtain ⟨cj, hcj⟩ : ∃ cj, cj = cT j := ⟨_, rfl⟩
                have HM5 := hide (HM4.out pos nj cj hps hnj hcj)
                rw [← hps] at hpc hpos
                rw [← hnj] at hsc hlj hhl hex hpos htc hcap
                rw [← hcj] at htc hcap
                clear hps hnj hcj HM3 HM4
                generalize h j = hj1 at hhc hhl hex hpc
                have hex2 : decide ((nj : Int) ≤ (hj1 : Int)) = false := by simp; omega
                have hex3 : decide ((hj1 : Int) ≥ (nj : Int)) = false := by simp; omega
                have hnil := eql_nil
                go_wp2
                go_quiet (fail)
                go_wp2
                exact ⟨⟨j + 1, q + nq, by go_num, by omega, by trivial, Or.inr ⟨j, aj, p j (h j), rfl, by omega, HM5.out, hide ⟨HM2.out.1, rfl, HM2.out.2.2⟩⟩⟩, by simp [intOf]; omega⟩
              · obtain ⟨pos, hps⟩ : ∃ pos, pos = p j (h j) := ⟨_, rfl⟩
                obtain ⟨nj, hnj⟩ : ∃ nj, nj = (T j).length := ⟨_, rfl⟩
                obtain ⟨cj, hcj⟩ : ∃ cj, cj = cT j := ⟨_, rfl⟩
                obtain ⟨cv, hcv⟩ : ∃ cv, cv = Lib.compareBytes ((T m).drop pm) ((T j).drop pos) := ⟨_, rfl⟩
                have HCV : Hid (0 < cv ↔ sf T p j (h j) < sf T p m (h m)) := by
                  rw [hcv, cmp_pos, HM.out.2.1, hps]
                  exact hide Iff.rfl
                have hmk3 : m < k := by omega
                have hpm : pm < (T m).length := by
                  rw [HM.out.2.1]
                  exact (HSF.out.suf m hmk3).pm.lt (h m) HM.out.2.2.1
                have HCMP : Hid (∀ n, Calls Try.prog 22 #[.slice (some (am.add pm)) ((T m).length - pm) (cT m - pm), .slice (some (aj.add pos)) (nj - pos) (cj - pos)] (w2.drewN n) fun e w' => e = .returned (.int .i64 cv) ∧ w' = w2.drewN n) := by
                  intro n
                  have r1 := HTW.out.txt m hmk3
                  rw [HM.out.1] at r1
                  have r2 := HTW.out.txt j hjk
                  rw [HAJ.out] at r2
                  have h1 := compare_any _ _ (am.add pm) (aj.add pos) (cT m - pm) (cj - pos) _ _ (w2.drewN n) ((reads_suffix r1 hpm).drewN n) ((reads_suffix r2 (pos := pos) (by omega)).drewN n)
                  rw [List.length_drop, List.length_drop, ← hnj, ← hcv] at h1
                  exact h1
                have HJ : Hid (AT j = some aj ∧ pos = p j (h j) ∧ nj = (T j).length ∧ cj = cT j) := hide ⟨HAJ.out, hps, hnj, hcj⟩
                have hjlt : h j < (T j).length := by omega
                have HJL := hide hjlt
                rw [← hps] at hpc hpos
                rw [← hnj] at hsc hlj hhl hex hpos htc hcap
                rw [← hcj] at htc hcap
                clear hps hnj hcj hcv hjlt HAJ hpm
                generalize h j = hj1 at hhc hhl hex hpc
                have hex2 : decide ((nj : Int) ≤ (hj1 : Int)) = false := by simp; omega
                have hex3 : decide ((hj1 : Int) ≥ (nj : Int)) = false := by simp; omega
                have hnil := eql_some
                by_cases hc : 0 < cv
                · have HM2 : Hid (AT j = some aj ∧ p j (h j) = p j (h j) ∧ h j < (T j).length ∧ ∀ i, i < j + 1 → h i < (T i).length → ¬ sf T p i (h i) < sf T p j (h j)) := by
                    refine hide ⟨HJ.out.1, rfl, HJL.out, fun i hi h5 => ?_⟩
                    rcases Nat.lt_succ_iff_lt_or_eq.1 hi with h6 | h6
                    · intro h7
                      exact HM.out.2.2.2 i h6 h5 (List.lt_trans h7 (HCV.out.1 hc))
                    · subst h6; exact List.lt_irrefl _
                  have HM5 : Hid (Value.slice (some (aj.add pos)) (nj - pos) (cj - pos) = .slice (some (aj.add (p j (h j)))) ((T j).length - p j (h j)) (cT j - p j (h j))) := by
                    rw [HJ.out.2.1, HJ.out.2.2.1, HJ.out.2.2.2]
                    exact hide rfl
                  have hc2 : decide (cv > 0) = true := by simp; omega
                  have hc3 : decide (0 < cv) = true := by simp; omega
                  go_wp2
                  go_quiet (fail)
                  go_wp2_with fail
                  refine (HCMP.out _).mono ?_
                  rintro _ _ ⟨rfl, rfl⟩
                  go_wp2
                  exact ⟨⟨j + 1, q + nq, by go_num, by omega, by trivial, Or.inr ⟨j, aj, p j (h j), rfl, by omega, HM5.out, hide ⟨HM2.out.1, rfl, HM2.out.2.2⟩⟩⟩, by simp [intOf]; omega⟩
                · have HM2 : Hid (AT m = some am ∧ pm = p m (h m) ∧ h m < (T m).length ∧ ∀ i, i < j + 1 → h i < (T i).length → ¬ sf T p i (h i) < sf T p m (h m)) := by
                    obtain ⟨h1, h2, h3, h4⟩ := HM.out
                    refine hide ⟨h1, h2, h3, fun i hi h5 => ?_⟩
                    rcases Nat.lt_succ_iff_lt_or_eq.1 hi with h6 | h6
                    · exact h4 i h6 h5
                    · subst h6
                      intro h7
                      exact hc (HCV.out.2 h7)
                  have hc2 : decide (cv > 0) = false := by simp; omega
                  have hc3 : decide (0 < cv) = false := by simp; omega
                  go_wp2
                  go_quiet (fail)
                  go_wp2_with fail
                  refine (HCMP.out _).mono ?_
                  rintro _ _ ⟨rfl, rfl⟩
                  go_wp2
                  exact ⟨⟨j + 1, q + nq, by go_num, by omega, by trivial, Or.inr ⟨m, am, pm, rfl, by omega, rfl, HM2⟩⟩, by simp [intOf]; omega⟩
          · obtain rfl : k = j := by omega
            rcases hmin with ⟨rfl, rfl, HN⟩ | ⟨m, am, pm, rfl, hmj, rfl, HM⟩
            · have HF : Hid (LcssOut k T w (.returned (.slice (some ⟨lg, 0, none⟩) zl zl)) (w2.drewN q)) := by
                have h1 := HZ.out
                refine hide ⟨z, lg, by rw [h1], HL.out.lcs.drewN q, (HL.out.drewN q).bel, HG.out.com, HG.out.done HN.out⟩
              clear HL HG HN HTW HSW HT HSF
              go_wp2
              go_ret
              exact HF.out
            · have HL3 := hide (HL.out.drewN q)
              have HT3 := hide (HTW.out.below (((Chg.refl (fun _ => False) w2).drewN q).toBelow))
              obtain ⟨w3, hw3⟩ : ∃ w3, w3 = w2.drewN q := ⟨_, rfl⟩
              rw [← hw3] at HL3 HT3 ⊢
              clear hw3 HL HTW HSW
              have hm1 : ((m : Int) == -1) = false := by rw [beq_eq_false_iff_ne]; omega
              have hbc : w3.cell? ⟨w.heap.size + 1, m, none⟩ = some (bV T AT cT p h m) := HL3.out.boil.vcell hmj
              obtain ⟨A', n', c', hbv⟩ : ∃ A' n' c', bV T AT cT p h m = .slice A' n' c' := by
                unfold bV sufV
                split
                · exact ⟨_, _, _, rfl⟩
                · exact ⟨_, _, _, rfl⟩
              rw [hbv] at hbc
              have HBV := hide hbv
              clear hbv
              go_upto_if 94 with fail
              go_cut [11] from 51 to 129 (fun v11 wx => ∃ bm : Nat, v11 = .int .i64 bm ∧ Hid (bm = boilN (updN h m (h m + 1)) k ∧ Lm w k T AT cT p w.heap.size (w.heap.size + 1) (w.heap.size + 1 + 1) wx h h ((bpl k T p h).set m []) z lg))
              case first =>
                by_cases hz : h m = 0
                · have hb0 := HBV.out
                  rw [show bV T AT cT p h m = .slice none 0 0 from if_pos hz] at hb0
                  injection hb0 with hb0 hb1 hb2
                  subst hb0; subst hb1; subst hb2
                  have HF : Hid (bn + 1 = boilN (updN h m (h m + 1)) k ∧ Lm w k T AT cT p w.heap.size (w.heap.size + 1) (w.heap.size + 1 + 1) w3 h h ((bpl k T p h).set m []) z lg) := by
                    rw [bpl_nil hmj hz, boilN_upd h k hmj, if_pos hz, ← HBN.out]
                    exact hide ⟨rfl, HL3.out⟩
                  clear HL3 HT3 HBV hbc HM
                  go_wp2
                  go_meet
                  case rel => exact ⟨bn + 1, by go_num, HF⟩
                · have hb0 := HBV.out
                  have hlt9 : p m (h m - 1) < (T m).length := (HSF.out.suf m hmj).pm.lt _ (by have := HG.out.le m hmj; omega)
                  rw [show bV T AT cT p h m = sufV T AT cT m (p m (h m - 1)) from if_neg hz, sufV, HM.out.1] at hb0
                  injection hb0 with hb0 hb1 hb2
                  rw [Option.map_some] at hb0
                  subst hb0; subst hb1; subst hb2
                  have HREM := hide (HL3.out.rem HT.out (by rw [bpl_len]; omega) hmj HM.out.1 hlt9 (by rw [bpl_get hmj, if_neg hz]) (HLEN.out m hmj))
                  have HBM : Hid (bn = boilN (updN h m (h m + 1)) k) := by
                    rw [boilN_upd h k hmj, if_neg hz, ← HBN.out]
                    exact hide rfl
                  clear HL3 HT3 HBV HM
                  go_wp2_with fail
                  refine HREM.out.mono ?_
                  rintro _ w4 ⟨rfl, hl4⟩
                  have HL4 := hide hl4
                  clear hl4 HREM hbc
                  go_wp2_with fail
                  go_meet
                  case rel => exact ⟨bn, rfl, hide ⟨HBM.out, HL4.out⟩⟩
              case rest =>
                obtain ⟨bm, rfl, HC⟩ := hcut
                obtain ⟨hbm, hl4⟩ := HC.out
                have hbl := boilN_le (updN h m (h m + 1)) k
                rw [← hbm] at hbl
                have HBM := hide hbm
                have hlt9 := (HSF.out.suf m hmj).pm.lt (h m) HM.out.2.2.1
                have hb1 := hl4.boil.vcell hmj
                have hb2 := hl4.boil.frozen m
                have hsv : sufV T AT cT m (p m (h m)) = .slice (some (am.add pm)) ((T m).length - pm) (cT m - pm) := by
                  rw [sufV, HM.out.1, HM.out.2.1]
                  rfl
                have hl5 := hl4.setBoil m
                rw [hsv] at hl5
                have HL5 := hide hl5
                have hc6 := hl5.add HT.out (by rw [List.length_set, bpl_len]; omega) hmj HM.out.1 (pp := pm) (by rw [HM.out.2.1]; exact hlt9) (by rw [List.getElem?_set_self (by rw [bpl_len]; exact hmj)]) (HLEN.out m hmj)
                rw [List.set_set, HM.out.2.1, bpl_upd hmj, ← HM.out.2.1] at hc6
                have HC6 := hide hc6
                clear HL3 HT3 HBV hbc HC hbm hl4 hsv hl5 hc6
                obtain ⟨A', n', c', hbv⟩ : ∃ A' n' c', bV T AT cT p h m = .slice A' n' c' := by
                  unfold bV sufV
                  split
                  · exact ⟨_, _, _, rfl⟩
                  · exact ⟨_, _, _, rfl⟩
                rw [hbv] at hb1
                clear hbv
                go_wp2_with fail
                refine HC6.out.mono ?_
                rintro _ w6 ⟨rfl, hl6⟩
                clear HC6 HL5 hb1 hb2
                have hh1 := hl6.heads.icell hmj
                have hh2 := hl6.heads.frozen m
                have HL7 := hide (hl6.setHead m)
                have hhl := HG.out.le m hmj
                have hln := HLEN.out m hmj
                have HL6 := hide hl6
                clear hl6
                have hrem := remN_upd (fun i => (T i).length) h HM.out.2.2.1 k hmj
                have HRM : Hid (remN (fun i => (T i).length) (updN h m (h m + 1)) k + 1 < gk) := by have := HGK.out; exact hide (by omega)
                have HNX : Hid (∀ z', (∀ i, i < k → z' <:+: T i) → z.length ≤ z'.length → ((∀ i, i < k → 0 < updN h m (h m + 1) i) → ∀ x, (∀ i, i < k → x <+: sf T p i (updN h m (h m + 1) i - 1)) → x.length ≤ z'.length) → Mg k T p (updN h m (h m + 1)) z') := fun z' h1 h2 h3 => HG.out.next HSF.out.suf hmj HM.out.2.2.1 HM.out.2.2.2 z' h1 h2 h3
                have HLE : Hid (∀ i, i < k → updN h m (h m + 1) i ≤ (T i).length) := fun i hi => by
                  have h1 := HG.out.le i hi
                  have h2 := HM.out.2.2.1
                  unfold updN
                  split
                  · rename_i e; subst e; omega
                  · exact h1
                obtain ⟨hn, hhn⟩ : ∃ hn, hn = updN h m (h m + 1) := ⟨_, rfl⟩
                rw [← hhn] at HRM HNX HLE HL7 HBM
                have HC := hide HG.out.com
                clear HM HL6 hhn hrem HGK HG hlt9
                generalize h m = hm9 at *
                go_upto_region 39 with fail
                obtain ⟨w7, hw7⟩ : ∃ w7, w7 = w6.setCell ⟨w.heap.size, m, none⟩ (.int .i64 ((hm9 : Int) + 1)) := ⟨_, rfl⟩
                rw [← hw7] at HL7 ⊢
                clear hw7 hh1 hh2
                by_cases hall : bm = k
                · have heq : ((bm : Int) == (k : Int)) = true := by rw [beq_iff_eq]; omega
                  have HPOS : Hid (∀ i, i < k → 0 < hn i) := hide ((boilN_all hn k).1 (by have := HBM.out; omega))
                  clear hall
                  obtain ⟨F, C, L, t1, t2, t3⟩ := HL7.out.tree
                  obtain ⟨A0, c0, hL0, _⟩ := t1.slice (q := []) (Or.inl rfl)
                  have r0 := t1.rootB.cell 0
                  have r1 := t1.rootB.cell 1
                  have r2 := t1.rootB.cell 2
                  simp at r0 r1 r2
                  have hz0 : cntU (bpl k T p hn) [] = 0 := by simp [cntU]
                  have hu2 : ∀ q, cntU (bpl k T p hn) q ≤ 1000000 := fun q => Nat.le_trans (cntU_le _ q) (by rw [bpl_len]; omega)
                  have HL1 := hide (lcpl_any 1000 w7 (w.heap.size + 1 + 1) F (cntU (bpl k T p hn)) C L t1 hz0 hu2 (bpl_short HLEN.out) (by omega))
                  have HL2 : Hid (∀ w8, Chg (fun _ => False) w7 w8 → Calls Try.prog 26 #[.agg #[.int .u8 0, L [], .int .i64 0]] w8 fun e w' => ∃ (q : Bs) (g : Nat), e = .returned (.slice (some ⟨g, 0, none⟩) q.length q.length) ∧ LcpC C (cntU (bpl k T p hn)) q ∧ Chg (fun _ => False) w8 w' ∧ w8.heap.size ≤ g ∧
                      Blk w' g 5 (arrV q.length (fun t => .int .u8 ((q.getD t 0).toNat : Int)))) := fun w8 hg => lcp_any 1000 w8 (w.heap.size + 1 + 1) F (cntU (bpl k T p hn)) C L (t1.chg hg (fun _ _ h => h)) hz0 hu2 (bpl_short HLEN.out) (by omega)
                  have HLC : Hid (∀ q, LcpC C (cntU (bpl k T p hn)) q → (∀ i, i < k → q <:+: T i) ∧ (∀ x, (∀ i, i < k → x <+: sf T p i (hn i - 1)) → x.length ≤ q.length) ∧ ∀ i, i < k → q <+: sf T p i (hn i - 1)) := fun q hq => bpl_lcp hkp2 HPOS.out HLE.out HSF.out.suf t1.nodup t1.mem hq
                  have HR : Hid (∀ w8, Chg (fun _ => False) w7 w8 → w8.cell? ⟨w.heap.size + 1 + 1, 0, none⟩ = some (.int .u8 0) ∧ w8.cell? ⟨w.heap.size + 1 + 1, 1, none⟩ = some (L []) ∧ w8.cell? ⟨w.heap.size + 1 + 1, 2, none⟩ = some (.int .i64 0)) := fun w8 hg => by
                    have hb := t1.rootB.chg hg (fun h => h)
                    exact ⟨by rw [hb.cell]; rfl, by rw [hb.cell]; rfl, by rw [hb.cell]; rfl⟩
                  rw [hL0] at HL1 HL2 HR r1
                  generalize (C []).length = n0 at HL1 HL2 HR r1
                  clear t1 t2 t3 hz0 hu2 hL0
                  go_wp2_with fail
                  refine HL1.out.mono ?_
                  rintro _ w8 ⟨qq, rfl, hq, hg8⟩
                  have HQ := hide (HLC.out qq hq)
                  have HG8 := hide hg8
                  have hql : qq.length ≤ 1000 := by
                    obtain ⟨s', t', e⟩ := HQ.out.1 0 hkp2
                    have := congrArg List.length e
                    simp at this
                    omega
                  obtain ⟨s0, s1, s2⟩ := HR.out w8 hg8
                  clear hq hg8 HL1 HR r0 r1 r2
                  by_cases hgt : zl < qq.length
                  · have hd1 : decide ((qq.length : Int) > (zl : Int)) = true := by simp; omega
                    have hd2 : decide ((zl : Int) < (qq.length : Int)) = true := by simp; omega
                    obtain ⟨ql, hqle⟩ : ∃ ql, ql = qq.length := ⟨_, rfl⟩
                    rw [← hqle] at hgt hql hd1 hd2 ⊢
                    have HQE := hide hqle
                    clear hqle
                    go_wp2_with fail
                    refine (HL2.out w8 HG8.out).mono ?_
                    rintro _ w9 ⟨q9, g9, rfl, hq9, hg9, hge, hb9⟩
                    have HQ9 := hide (HLC.out q9 hq9)
                    have hle9 : ql ≤ q9.length := by rw [HQE.out]; exact HQ9.out.2.1 qq HQ.out.2.2
                    have hl9 : q9.length ≤ 1000 := by
                      obtain ⟨s', t', e⟩ := HQ9.out.1 0 hkp2
                      have := congrArg List.length e
                      simp at this
                      omega
                    have HL9 := hide ((HL7.out.gr HG8.out).setLcs hg9 hge hb9.lt (reads_arrV hb9))
                    have HM9 : Hid (Mg k T p hn q9) := hide (HNX.out q9 HQ9.out.1 (by have := HZ.out; omega) (fun _ x hx => HQ9.out.2.1 x hx))
                    clear hq9 hg9 hge hb9 s0 s1 s2 HL7 HNX HLE HQ HG8 HL2 HLC HQE
                    by_cases hend : q9.length = ml
                    · have he9 : ((q9.length : Int) == (ml : Int)) = true := by rw [beq_iff_eq]; omega
                      have HF : Hid (LcssOut k T w (.returned (.slice (some ⟨g9, 0, none⟩) q9.length q9.length)) w9) := by
                        refine hide ⟨q9, g9, rfl, HL9.out.lcs, HL9.out.bel, HQ9.out.1, fun x hx => ?_⟩
                        obtain ⟨t, ht, hml9⟩ := HMN.out.2
                        have h1 := (hx t ht).length_le
                        omega
                      clear HL9 HM9 HQ9 hend hd1 hd2
                      generalize q9.length = l9 at *
                      go_wp2
                      go_ret
                      exact HF.out
                    · have he9 : ((q9.length : Int) == (ml : Int)) = false := by rw [beq_eq_false_iff_ne]; omega
                      obtain ⟨l9, hl9e⟩ : ∃ l9, l9 = q9.length := ⟨_, rfl⟩
                      have HF : Hid (∃ (h : Nat → Nat) (z : Bs), z.length = l9 ∧ bm = boilN h k ∧ Lm w k T AT cT p w.heap.size (w.heap.size + 1) (w.heap.size + 1 + 1) w9 h h (bpl k T p h) z g9 ∧ Mg k T p h z ∧ remN (fun i => (T i).length) h k < remN (fun i => (T i).length) hn k + 1) :=
                        hide ⟨hn, q9, hl9e.symm, HBM.out, HL9.out, HM9.out, Nat.lt_succ_self _⟩
                      have hrm := HRM.out
                      rw [← hl9e] at hl9 he9 ⊢
                      clear HL9 HM9 HQ9 hend hd1 hd2 hl9e hle9
                      go_wp2
                      go_roundg (remN (fun i => (T i).length) hn k + 1)
                      case measure => exact hrm
                      case rel => exact ⟨bm, l9, g9, rfl, rfl, hbl, hl9, HF⟩
                  · have hd1 : decide ((qq.length : Int) > (zl : Int)) = false := by simp; omega
                    have hd2 : decide ((zl : Int) < (qq.length : Int)) = false := by simp; omega
                    have HF : Hid (∃ (h : Nat → Nat) (z : Bs), z.length = zl ∧ bm = boilN h k ∧ Lm w k T AT cT p w.heap.size (w.heap.size + 1) (w.heap.size + 1 + 1) w8 h h (bpl k T p h) z lg ∧ Mg k T p h z ∧ remN (fun i => (T i).length) h k < remN (fun i => (T i).length) hn k + 1) := by
                      refine hide ⟨hn, z, HZ.out, HBM.out, HL7.out.gr HG8.out, HNX.out z HC.out (Nat.le_refl _) (fun _ x hx => ?_), Nat.lt_succ_self _⟩
                      have := HQ.out.2.1 x hx
                      have := HZ.out
                      omega
                    have hrm := HRM.out
                    clear HL7 HNX HLE HC HQ HG8 HL2 HLC
                    generalize qq.length = ql at *
                    go_wp2
                    go_roundg (remN (fun i => (T i).length) hn k + 1)
                    case measure => exact hrm
                    case rel => exact ⟨bm, zl, lg, rfl, rfl, hbl, hzl, HF⟩
                · have heq : ((bm : Int) == (k : Int)) = false := by rw [beq_eq_false_iff_ne]; omega
                  have HF : Hid (∃ (h : Nat → Nat) (z : Bs), z.length = zl ∧ bm = boilN h k ∧ Lm w k T AT cT p w.heap.size (w.heap.size + 1) (w.heap.size + 1 + 1) w7 h h (bpl k T p h) z lg ∧ Mg k T p h z ∧ remN (fun i => (T i).length) h k < remN (fun i => (T i).length) hn k + 1) := by
                    refine hide ⟨hn, z, HZ.out, HBM.out, HL7.out, HNX.out z HC.out (Nat.le_refl _) (fun hp => ?_), Nat.lt_succ_self _⟩
                    have := (boilN_all hn k).2 hp
                    have := HBM.out
                    omega
                  have hrm := HRM.out
                  clear HL7 HNX HLE HC
                  go_wp2
                  go_roundg (remN (fun i => (T i).length) hn k + 1)
                  case measure => exact hrm
                  case rel => exact ⟨bm, zl, lg, rfl, rfl, hbl, hzl, HF⟩
end Go.Proofs.Ytaihafoopoaahaa
