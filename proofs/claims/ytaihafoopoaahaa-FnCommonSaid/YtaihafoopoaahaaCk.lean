/- The walks of LongestCommonSubstring and impl.Common. Under sizes alone. -/
import Derived.Test.YtaihafoopoaahaaCj
namespace Go.Proofs.Ytaihafoopoaahaa
open Go.RowKit

theorem info23 : (Try.prog.info? 23).map (fun i => (i.zero, i.size, i.bytes)) = some (some (.slice none 0 0), 1, 24) := by kernel_rfl
theorem make_tab {n : Nat} (hn : n ≤ 1000000) (w : World) : (Instr.makeSlice 35 (.int .i64 (n : Int)) (.int .i64 (n : Int))).run Try.prog w = .ok (.slice (some ⟨w.heap.size, 0, none⟩) n n) (w.alloc (.cells (arrV n (fun _ => .slice none 0 0)) 23)) := make_vals 35 23 (.slice none 0 0) 24 rfl Try.underlying35 info23 hn (by omega) w

/-- The longest common substring of the texts. -/
def COut (k : Nat) (T : Nat → Bs) (w : World) (e : Ending) (w' : World) : Prop :=
  ∃ (z : Bs) (A : Option Addr) (c : Nat), e = .returned (.slice A z.length c) ∧ Reads w' (fun _ => True) 1 A z.length (bts z) ∧ (A = none → z.length = 0 ∧ c = 0) ∧ Below w.heap.size w w' ∧ (∀ i, i < k → z <:+: T i) ∧ ∀ x, (∀ i, i < k → x <:+: T i) → x.length ≤ z.length

theorem LcssOut.out {k : Nat} {T : Nat → Bs} {w0 w : World} {e : Ending} {w' : World} (h : LcssOut k T w e w') (hb : Below w0.heap.size w0 w) : COut k T w0 e w' := by
  obtain ⟨z, g, h1, h2, h3, h4, h5⟩ := h
  exact ⟨z, _, _, h1, h2.more (fun _ _ _ => trivial), fun h => (by cases h), hb.trans (h3.mono hb.size), h4, h5⟩

/-- The suffix arrays of the first i texts are laid. -/
structure Tab (w0 : World) (sb k : Nat) (T : Nat → Bs) (i : Nat) (G : Nat → Nat) (p : Nat → Nat → Nat) (W : World) : Prop where
  row : Blk W sb 23 (arrV k (fun t => if t < i then .slice (some ⟨G t, 0, none⟩) (T t).length (T t).length else .slice none 0 0))
  sa : ∀ t, t < i → Blk W (G t) 3 (arr (T t).length (fun j => (p t j : Int)))
  suf : ∀ t, t < i → SufArr (T t) (T t).length (p t)
  bel : Below w0.heap.size w0 W
  o1 : w0.heap.size ≤ sb

theorem Tab.next {w0 W W' : World} {sb k i g : Nat} {T : Nat → Bs} {G : Nat → Nat} {p : Nat → Nat → Nat} {q : Nat → Nat} (t : Tab w0 sb k T i G p W) (hb : Below W.heap.size W W') (hg : Blk W' g 3 (arr (T i).length (fun j => (q j : Int)))) (hs : SufArr (T i) (T i).length q) :
    Tab w0 sb k T (i + 1) (updN G i g) (fun t => if t = i then q else p t) (W'.setCell ⟨sb, i, none⟩ (.slice (some ⟨g, 0, none⟩) (T i).length (T i).length)) := by
  have hr := t.row.below hb t.row.lt
  have hne : ∀ b cs, Blk W' b 3 cs → b ≠ sb := fun b cs h => h.ne_ hr (by decide)
  refine ⟨?_, fun j hj => ?_, fun j hj => ?_, ?_, t.o1⟩
  · have h1 := hr.vset i (.slice (some ⟨g, 0, none⟩) (T i).length (T i).length)
    rw [arrV_congr (W := fun t => if t < i + 1 then .slice (some ⟨updN G i g t, 0, none⟩) (T t).length (T t).length else .slice none 0 0) (fun j _ => by
      unfold updV updN
      by_cases e : j = i
      · subst e; simp
      · rw [if_neg e]
        dsimp only
        by_cases e2 : j < i
        · rw [if_pos e2, if_pos (by omega), if_neg e]
        · rw [if_neg e2, if_neg (by omega)])] at h1
    exact h1
  · by_cases e : j = i
    · subst e
      rw [show updN G j g j = g from if_pos rfl]
      simp only [if_true]
      exact hg.far (p := ⟨sb, j, none⟩) (hne _ _ hg) _
    · rw [show updN G i g j = G j from if_neg e]
      simp only [if_neg e]
      have h2 := (t.sa j (by omega)).below hb (t.sa j (by omega)).lt
      exact h2.far (p := ⟨sb, i, none⟩) (hne _ _ h2) _
  · by_cases e : j = i
    · subst e
      simp only [if_true]
      exact hs
    · simp only [if_neg e]
      exact t.suf j (by omega)
  · exact (t.bel.trans (hb.mono t.bel.size)).setCell (p := ⟨sb, i, none⟩) t.o1 _

set_option linter.unusedSimpArgs false in
set_option linter.unusedVariables false in
set_option maxHeartbeats 4000000 in
set_option maxRecDepth 100000 in
theorem lcs_many (k : Nat) (T : Nat → Bs) (AT : Nat → Option Addr) (cT : Nat → Nat) (A : Option Addr) (c : Nat) (w : World) (hT : Txs w A k T AT cT) (hk2 : 2 ≤ k) (hk : k ≤ 1000) (hlen : ∀ i, i < k → (T i).length ≤ 1000) :
    Calls Try.prog 13 #[.slice A k c] w (COut k T w) := by
  have HT := hide hT
  have HLEN := hide hlen
  have hk0 : ((k : Int) == 0) = false := by rw [beq_eq_false_iff_ne]; omega
  have hk1 : ((k : Int) == 1) = false := by rw [beq_eq_false_iff_ne]; omega
  have hmk := fun W => make_tab (n := k) (by omega) W
  obtain ⟨ad, rfl, hadl, _⟩ := hT.cell 0 (by omega)
  have HX : Hid (∃ G p, Tab w w.heap.size k T 0 G p (w.alloc (.cells (arrV k (fun _ => .slice none 0 0)) 23))) := by
    refine hide ⟨fun _ => 0, fun _ _ => 0, ?_, fun t ht => by omega, fun t ht => by omega, (Below.refl _ w).alloc (Nat.le_refl _) _, Nat.le_refl _⟩
    have h1 := Blk.new w 23 (arrV k (fun _ => .slice none 0 0))
    rw [show (arrV k fun _ => Value.slice none 0 0) = arrV k (fun t => if t < 0 then .slice (some ⟨0, 0, none⟩) (T t).length (T t).length else .slice none 0 0) from arrV_congr (fun i _ => by rw [if_neg (by omega)])] at h1
    exact h1
  clear hT hlen
  go_enter Try.func13, Try.ntmps13
  go_wp2
  go_loopw [21] (fun s21 wr => ∃ i : Nat, s21 = .int .i64 i ∧ i ≤ k ∧ Hid (∃ G p, Tab w w.heap.size k T i G p wr)) (fun s21 _ => k - (intOf s21).toNat)
  case atStart => exact ⟨0, rfl, by omega, HX⟩
  case round =>
    obtain ⟨i, rfl, hi, HY⟩ := hrel
    obtain ⟨G, p, htab⟩ := HY.out
    have HTB := hide htab
    clear HX HY htab hmk
    by_cases hik : i < k
    · have HTX := hide (HT.out.below HTB.out.bel)
      obtain ⟨ad', e, _, htc⟩ := HTX.out.cell i hik
      injection e with e
      subst e
      have hlen := HLEN.out i hik
      have HQ := hide (qsuf_any (T i) (AT i) (cT i) wr (HTX.out.txt i hik) (by omega))
      have HNX : Hid (∀ w' g q, Below wr.heap.size wr w' → Blk w' g 3 (arr (T i).length (fun j => (q j : Int))) → SufArr (T i) (T i).length q → (∃ G p, Tab w w.heap.size k T (i + 1) G p (w'.setCell ⟨w.heap.size, i, none⟩ (.slice (some ⟨g, 0, none⟩) (T i).length (T i).length))) ∧ w'.cell? ⟨w.heap.size, i, none⟩ = some (.slice none 0 0) ∧ w'.frozen? ⟨w.heap.size, i, none⟩ = false) := fun w' g q h1 h2 h3 => by
        have hr := HTB.out.row.below h1 HTB.out.row.lt
        refine ⟨⟨_, _, HTB.out.next h1 h2 h3⟩, ?_, hr.frozen i⟩
        rw [hr.vcell hik, if_neg (by omega)]
      clear HTB HTX
      generalize (T i).length = ni at *
      go_wp2_with fail
      refine HQ.out.mono ?_
      rintro _ w2 ⟨q, rfl, h1, h2, h3⟩
      obtain ⟨h4, h5, h6⟩ := HNX.out w2 _ q h1 h2 h3
      have HN := hide h4
      clear h1 h2 h3 h4 HNX HQ htc
      go_wp2
      exact ⟨⟨i + 1, by go_num, by omega, HN⟩, by simp [intOf]; omega⟩
    · obtain rfl : k = i := by omega
      have HSF : Hid (Sfs wr w.heap.size k T G p) := by
        refine hide ⟨?_, HTB.out.sa, HTB.out.suf⟩
        have h1 := HTB.out.row
        rw [arrV_congr (W := fun i => .slice (some ⟨G i, 0, none⟩) (T i).length (T i).length) (fun t ht => by rw [if_pos ht])] at h1
        exact h1
      have HC := hide (lcss_any k T AT cT p G (some ad) c w.heap.size wr (HT.out.below HTB.out.bel) HSF.out hk2 hk HLEN.out)
      have HB := hide HTB.out.bel
      clear HTB HSF HT
      go_wp2_with fail
      refine HC.out.mono ?_
      rintro e w2 h1
      have h2 := h1.out HB.out
      obtain ⟨z, A', c', rfl, h3⟩ := id h2
      have HF := hide h2
      clear h1 h2 h3 HC
      go_wp2
      go_ret
      exact HF.out

set_option linter.unusedSimpArgs false in
set_option linter.unusedVariables false in
set_option maxHeartbeats 1000000 in
set_option maxRecDepth 100000 in
theorem lcs_one (T : Nat → Bs) (AT : Nat → Option Addr) (cT : Nat → Nat) (A : Option Addr) (c : Nat) (w : World) (hT : Txs w A 1 T AT cT) :
    Calls Try.prog 13 #[.slice A 1 c] w (COut 1 T w) := by
  obtain ⟨ad, rfl, hadl, hc⟩ := hT.cell 0 (by omega)
  have hc0 : w.cell? ad = some (.slice (AT 0) (T 0).length (cT 0)) := by simpa [Addr.add] using hc
  have HF : Hid (COut 1 T w (.returned (.slice (AT 0) (T 0).length (cT 0))) w) := by
    refine hide ⟨T 0, AT 0, cT 0, rfl, (hT.txt 0 (by omega)).more (fun _ _ _ => trivial), fun h => ⟨?_, hT.nil 0 (by omega) h⟩, Below.refl _ _, fun i hi => ?_, fun x hx => (hx 0 (by omega)).length_le⟩
    · rcases Nat.eq_zero_or_pos (T 0).length with h1 | h1
      · exact h1
      · obtain ⟨ad', e, _⟩ := (hT.txt 0 (by omega)).2 h1
        rw [h] at e; cases e
    · obtain rfl : i = 0 := by omega
      exact List.infix_refl _
  clear hT hc
  go_enter Try.func13, Try.ntmps13
  go_wp2
  go_ret
  exact HF.out

theorem lcs_any (k : Nat) (T : Nat → Bs) (AT : Nat → Option Addr) (cT : Nat → Nat) (A : Option Addr) (c : Nat) (w : World) (hT : Txs w A k T AT cT) (hk1 : 1 ≤ k) (hk : k ≤ 1000) (hlen : ∀ i, i < k → (T i).length ≤ 1000) :
    Calls Try.prog 13 #[.slice A k c] w (COut k T w) := by
  by_cases h : k = 1
  · subst h
    exact lcs_one T AT cT A c w hT
  · exact lcs_many k T AT cT A c w hT (by omega) hk hlen

set_option linter.unusedSimpArgs false in
set_option linter.unusedVariables false in
set_option maxHeartbeats 1000000 in
set_option maxRecDepth 100000 in
theorem common_any (k : Nat) (T : Nat → Bs) (AT : Nat → Option Addr) (cT : Nat → Nat) (A : Option Addr) (c : Nat) (w : World) (hT : Txs w A k T AT cT) (hk1 : 1 ≤ k) (hk : k ≤ 1000) (hlen : ∀ i, i < k → (T i).length ≤ 1000) :
    Calls Try.prog 8 #[.slice A k c] w (COut k T w) := by
  have HC := hide (lcs_any k T AT cT A c w hT hk1 hk hlen)
  clear hT hk1 hk hlen
  go_enter Try.func8, Try.ntmps8
  go_wp2_with fail
  refine HC.out.mono ?_
  rintro e w2 h2
  obtain ⟨z, A', c', rfl, h3⟩ := id h2
  have HF := hide h2
  clear h2 h3 HC
  go_wp2
  go_ret
  exact HF.out
end Go.Proofs.Ytaihafoopoaahaa
