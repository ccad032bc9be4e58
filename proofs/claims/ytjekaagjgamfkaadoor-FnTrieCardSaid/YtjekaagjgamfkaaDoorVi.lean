/- The visitor of impl.Trie: it appends the value to a list, and stops where the list is long enough. Under sizes alone. -/
import Derived.Test.YtjekaagjgamfkaaDoorTm
import Derived.Test.YtjekaagjgamfkaaDoorIns
import Derived.Deep.QuietTactic
import Derived.BigQuiet
import Derived.Deep.RegionLaw
import Derived.RegionTactic
import Derived.Deep.Cut
import Derived.Deep.DeepCutAuto
namespace Go.Proofs.YtjekaagjgamfkaaDoor
open Go.RowKit T

theorem info3 : (Tryd.prog.info? 3).map (fun i => (i.zero, i.size, i.bytes)) = some (some (.int .i64 0), 1, 8) := by kernel_rfl

/-- The list that a visitor fills lies at off in the block fb; the visitor keeps its place in lb, and the limit in mb. -/
structure VisSt (w ws : World) (T fb off lb mb : Nat) (most : Int) (er : Value) (cs : Array Value) (xs : List Int) (v : Value) : Prop where
  fbk : Blk w fb 27 (cs.setIfInBounds off v)
  own : w.ownsRow T 3 1 v xs.length (ints xs)
  lbk : Blk w lb 46 #[.pointer (some ⟨fb, off, none⟩)]
  mbk : Blk w mb 3 #[.int .i64 most]
  erc : w.cell? ⟨0, 0, none⟩ = some er
  offs : off < cs.size
  le : T ≤ fb
  pos : 0 < T
  mlt : mb < T
  llt : T ≤ lb
  chg : Chg (fun i => i = fb) ws w
  fresh : ∀ g, v.ownBlock = some g → ws.heap.size ≤ g

theorem own_nof {w : World} {T fb : Nat} {v : Value} {n : Nat} {xs : List Value} {cs : Array Value} (h : w.ownsRow T 3 1 v n xs) (hb : Blk w fb 27 cs) : v.ownBlock ≠ some fb := fun e => by
  obtain ⟨cs', hcs⟩ := own_blk h e
  exact hcs.ne_ hb (by decide) rfl

/-- No block but fb and the rows of ints has changed. -/
def Kept (fb : Nat) (w w' : World) : Prop := ∀ i t cs, Blk w i t cs → t ≠ 3 → i ≠ fb → Blk w' i t cs
theorem Kept.trans {fb : Nat} {a b c : World} (h : Kept fb a b) (k : Kept fb b c) : Kept fb a c := fun i t cs h1 h2 h3 => k i t cs (h i t cs h1 h2 h3) h2 h3
theorem Kept.below {fb : Nat} {a b : World} (h : Below a.heap.size a b) : Kept fb a b := fun _ _ _ h1 _ _ => h1.below h h1.lt
theorem Kept.refl {fb : Nat} {a : World} : Kept fb a a := fun _ _ _ h _ _ => h

theorem VisSt.next {w w1 ws : World} {T fb off lb mb : Nat} {most n : Int} {er : Value} {cs : Array Value} {xs : List Int} {v v1 : Value} {o : Obj} (h : VisSt w ws T fb off lb mb most er cs xs v) (hc : Chg (fun g => v.ownBlock = some g) (w.alloc o).drew w1) (ho : w1.ownsRow T 3 1 v1 (xs.length + 1) (ints xs ++ [.int .i64 n])) (hv : v1.ownBlock = v.ownBlock ∨ v1.ownBlock = some (w.heap.size + 1)) :
    VisSt (w1.setCell ⟨fb, off, none⟩ v1) ws T fb off lb mb most er cs (xs ++ [n]) v1 ∧ Below T w (w1.setCell ⟨fb, off, none⟩ v1) ∧ Kept fb w (w1.setCell ⟨fb, off, none⟩ v1) := by
  have hT : T ≤ w.heap.size := Nat.le_trans h.le (Nat.le_of_lt h.fbk.lt)
  have hne : ∀ b, (∃ t cs, Blk w b t cs ∧ t ≠ 3) → ¬ v.ownBlock = some b := fun b ⟨t, cs, hb, ht⟩ e => by
    obtain ⟨cs', hcs⟩ := own_blk h.own e
    exact hcs.ne_ hb (Ne.symm ht) rfl
  have hfb : Blk w1 fb 27 (cs.setIfInBounds off v) := ((h.fbk.alloc o).drew).chg hc (hne fb ⟨_, _, h.fbk, by decide⟩)
  have hlb : Blk w1 lb 46 #[.pointer (some ⟨fb, off, none⟩)] := ((h.lbk.alloc o).drew).chg hc (hne lb ⟨_, _, h.lbk, by decide⟩)
  have hmb : Blk w1 mb 3 #[.int .i64 most] := ((h.mbk.alloc o).drew).chg hc (fun e => by
    have h1 := (h.own.lt mb e).1
    have h2 := h.mlt
    omega)
  have he0 : w1.cell? ⟨0, 0, none⟩ = some er := (hc.cell (p := ⟨0, 0, none⟩) (by simp) (fun e => by
    have h1 := (h.own.lt 0 e).1
    have h2 := h.pos
    omega)).trans ((World.cell?_alloc_past (w := w) o 0 0 (by have := h.pos; omega)).trans h.erc)
  have hof : v1.ownBlock ≠ some fb := own_nof ho hfb
  have h2 := h.le
  have h3 := h.pos
  have h4 := h.mlt
  have hbel : Below T w (w1.setCell ⟨fb, off, none⟩ v1) := by
    refine Below.setCell (p := ⟨fb, off, none⟩) ?_ h2 v1
    exact ((((Below.refl T w).alloc hT o).drew)).trans (hc.below (by first | (simp; done) | (simp; omega)) (fun i hi => (h.own.lt i hi).1))
  have hch : Chg (fun i => i = fb) ws (w1.setCell ⟨fb, off, none⟩ v1) := by
    have h1 : Chg (fun i => i = fb) ws w1 := ((h.chg.alloc o).drew).trans hc (fun i hi e => by
      have := h.fresh i e
      omega)
    exact h1.setCell (p := ⟨fb, off, none⟩) (fun _ => rfl) v1
  have hfr : ∀ g, v1.ownBlock = some g → ws.heap.size ≤ g := fun g hg => by
    rcases hv with e | e
    · exact h.fresh g (e ▸ hg)
    · rw [e] at hg
      injection hg with hg
      have := h.chg.size
      omega
  refine ⟨⟨?_, ?_, hlb.far (p := ⟨fb, off, none⟩) (fun e => h.lbk.ne_ h.fbk (by decide) e) v1, hmb.far (p := ⟨fb, off, none⟩) (by show mb ≠ fb; omega) v1, ?_, h.offs, h.le, h.pos, h.mlt, h.llt, hch, hfr⟩, hbel, fun i t cs' h1 h5 h6 => ?_⟩
  · have := hfb.set_ off v1
    simpa using this
  · have e1 : (xs ++ [n]).length = xs.length + 1 := by simp
    rw [e1]
    have := ownsRow_setCell_other ho (a := ⟨fb, off, none⟩) hof v1
    simpa [ints] using this
  · rw [World.cell?_setCell_other _ _ _ _ (by first | (simp; done) | (simp; omega))]
    exact he0
  · exact (((h1.alloc o).drew).chg hc (hne i ⟨t, cs', h1, h5⟩)).far (p := ⟨fb, off, none⟩) h6 v1

theorem VisSt.drewN {w ws : World} {T fb off lb mb : Nat} {most : Int} {er : Value} {cs : Array Value} {xs : List Int} {v : Value} (h : VisSt w ws T fb off lb mb most er cs xs v) (q : Nat) : VisSt (w.drewN q) ws T fb off lb mb most er cs xs v :=
  ⟨h.fbk, h.own, h.lbk, h.mbk, h.erc, h.offs, h.le, h.pos, h.mlt, h.llt, h.chg.drewN _, h.fresh⟩

def VisOut (w ws : World) (T fb off lb mb : Nat) (most : Int) (er : Value) (cs : Array Value) (xs : List Int) (n : Int) (e : Ending) (w' : World) : Prop :=
  ∃ v', e = .returned (if ((xs.length : Int) + 1 = most) then er else .nilIface) ∧ VisSt w' ws T fb off lb mb most er cs (xs ++ [n]) v' ∧ Below T w w'
def VisOutK (w ws : World) (T fb off lb mb : Nat) (most : Int) (er : Value) (cs : Array Value) (xs : List Int) (n : Int) (e : Ending) (w' : World) : Prop :=
  ∃ v', e = .returned (if ((xs.length : Int) + 1 = most) then er else .nilIface) ∧ VisSt w' ws T fb off lb mb most er cs (xs ++ [n]) v' ∧ Below T w w' ∧ Kept fb w w'

set_option linter.unusedSimpArgs false in
set_option linter.unusedVariables false in
set_option maxHeartbeats 2000000 in
set_option maxRecDepth 100000 in
theorem visit_anyK (T fb off lb mb k : Nat) (most n : Int) (et : Value) (xs : List Int) (cs : Array Value) (v : Value) (w : World) {ws : World} (h : VisSt w ws T fb off lb mb most et cs xs v) (hk : Blk w k 3 #[.int .i64 n]) (hl : xs.length ≤ 2147483647) :
    Calls Tryd.prog 17 #[.pointer (some ⟨k, 0, none⟩), .pointer (some ⟨lb, 0, none⟩), .pointer (some ⟨mb, 0, none⟩)] w (VisOutK w ws T fb off lb mb most et cs xs n) := by
  obtain ⟨i0, hi, hz0, hz1, hz2⟩ := info_parts info3
  obtain ⟨A, c, rfl, hc1, hc2⟩ : ∃ A c, v = .slice A xs.length c ∧ xs.length ≤ c ∧ c ≤ maxLen := own_cap h.own
  have c0 : w.cell? ⟨lb, 0, none⟩ = some (.pointer (some ⟨fb, off, none⟩)) := by rw [h.lbk.cell]; rfl
  have c1 : w.cell? ⟨fb, off, none⟩ = some (.slice A xs.length c) := by rw [h.fbk.cell, Array.getElem?_setIfInBounds_self_of_lt h.offs]
  have c2 : w.cell? ⟨k, 0, none⟩ = some (.int .i64 n) := by rw [hk.cell]; rfl
  have c3 : w.cell? ⟨mb, 0, none⟩ = some (.int .i64 most) := by rw [h.mbk.cell]; rfl
  have l0 := h.lbk.lt
  have l1 := h.fbk.lt
  have l2 := hk.lt
  have l3 := h.mbk.lt
  have l4 := h.pos
  have l5 := h.le
  have HH := hide h
  clear h hk hc2
  go_enter Tryd.func17, Tryd.ntmps17
  go_upto_region 1 with fail
  go_cut [4] from 5 to 15 (fun s4 wx => s4 = .nilIface ∧ ∃ v', Hid (VisSt wx ws T fb off lb mb most et cs (xs ++ [n]) v' ∧ Below T w wx ∧ Kept fb w wx))
  case first =>
   go_region_law
    ((first
      | (refine step_appendN (by rfl) (.tmp 8) (.tmp 12) 24 (by rfl) T 3 i0 (.int .i64 0) 1 8 Tryd.underlying24 hi hz0 hz1 hz2 rfl (by decide) (.slice A xs.length c) (by rfl) xs.length (ints xs) (by first | exact HH.out.own.alloc _ | exact (World.ownsRow.alloc HH.out.own _)) (by simp; omega) ⟨w.heap.size, 0, none⟩ 1 1 [.int .i64 n] (by rfl) rfl (news_blk (t := 3) (cs := #[.int .i64 n]) (by exact Blk.new w _ _)) (by simp [Value.oneCell']) (by unfold maxLen; omega) (by omega) ?_
         intro v1 w1 HO1 HC1 HV1
         obtain ⟨A1, cap1, rfl, hq1, hq2⟩ := own_cap HO1.out
         have hfb : Blk w1 fb 27 (cs.setIfInBounds off (.slice A xs.length c)) := ((HH.out.fbk.alloc (.cells #[.int .i64 n] 3)).drew).chg (S := fun g => (Value.slice A xs.length c).ownBlock = some g) HC1.out (own_nof HH.out.own HH.out.fbk)
         have e1 : w1.cell? ⟨fb, off, none⟩ = some (.slice A xs.length c) := by rw [hfb.cell, Array.getElem?_setIfInBounds_self_of_lt HH.out.offs]
         have e2 := hfb.frozen off
         have HFB := hide hfb
         have hlb : Blk w1 lb 46 #[.pointer (some ⟨fb, off, none⟩)] := ((HH.out.lbk.alloc (.cells #[.int .i64 n] 3)).drew).chg (S := fun g => (Value.slice A xs.length c).ownBlock = some g) HC1.out (fun e => by
           obtain ⟨cs', hcs⟩ := own_blk HH.out.own e
           exact hcs.ne_ HH.out.lbk (by decide) rfl)
         have e3 : w1.cell? ⟨lb, 0, none⟩ = some (.pointer (some ⟨fb, off, none⟩)) := by rw [hlb.cell]; rfl
         have HLB := hide hlb
         have hmb : Blk w1 mb 3 #[.int .i64 most] := ((HH.out.mbk.alloc (.cells #[.int .i64 n] 3)).drew).chg (S := fun g => (Value.slice A xs.length c).ownBlock = some g) HC1.out (fun e => by
           have := (HH.out.own.lt mb e).1
           have := HH.out.mlt
           omega)
         have e4 : w1.cell? ⟨mb, 0, none⟩ = some (.int .i64 most) := by rw [hmb.cell]; rfl
         have HMB := hide hmb
         have hlbf : ¬ lb = fb := fun e => HH.out.lbk.ne_ HH.out.fbk (by decide) e
         have hmbf : ¬ mb = fb := fun e => HH.out.mbk.ne_ HH.out.fbk (by decide) e
         have hlf1 := hfb.lt
         have hll1 := hlb.lt
         have hlm1 := hmb.lt
         have he0 : w1.cell? ⟨0, 0, none⟩ = some et := (Chg.cell (S := fun g => (Value.slice A xs.length c).ownBlock = some g) HC1.out (p := ⟨0, 0, none⟩) (by simp) (fun e => by
           have := (HH.out.own.lt 0 e).1
           omega)).trans ((World.cell?_alloc_past (w := w) (.cells #[.int .i64 n] 3) 0 0 (by omega)).trans HH.out.erc)
         have hf0 : ¬ fb = 0 := by omega
         clear hfb hlb hmb)
      | fail))
   all_goals (go_wp2_with fail; go_meet; exact ⟨rfl, _, HH.out.next HC1.out HO1.out (by simpa using HV1.out)⟩)
  case rest =>
    obtain ⟨rfl, v', hcut2⟩ := hcut
    have hv := hcut2.out.1
    have HC := hide hcut2.out
    clear hcut2
    obtain ⟨A2, cp2, rfl, _, _⟩ : ∃ A c, v' = .slice A (xs ++ [n]).length c ∧ (xs ++ [n]).length ≤ c ∧ c ≤ maxLen := own_cap hv.own
    have d0 : wc.cell? ⟨lb, 0, none⟩ = some (.pointer (some ⟨fb, off, none⟩)) := by rw [hv.lbk.cell]; rfl
    have d1 : wc.cell? ⟨fb, off, none⟩ = some (.slice A2 (xs ++ [n]).length cp2) := by rw [hv.fbk.cell, Array.getElem?_setIfInBounds_self_of_lt hv.offs]
    have d3 : wc.cell? ⟨mb, 0, none⟩ = some (.int .i64 most) := by rw [hv.mbk.cell]; rfl
    have d4 := hv.erc
    clear hv c0 c1 c2 c3
    obtain ⟨L, hL⟩ : ∃ L, L = (xs ++ [n]).length := ⟨_, rfl⟩
    have hL2 : L = xs.length + 1 := by rw [hL]; simp
    rw [← hL] at d1
    have HL := hide hL2
    have hLl : (L : Int) = (xs.length : Int) + 1 := by omega
    clear hL hL2
    by_cases hq : (L : Int) = most
    · have hd : ((L : Int) == most) = true := by simpa using hq
      have HQ : Hid ((xs.length : Int) + 1 = most) := hLl ▸ hq
      clear hq hLl
      go_wp2
      go_quiet (fail)
      go_wp2
      go_ret
      refine ⟨_, by rw [if_pos HQ.out]; rfl, HC.out.1.drewN _, ⟨HC.out.2.1.os, HC.out.2.1.tape, HC.out.2.1.output, HC.out.2.1.size, HC.out.2.1.block⟩, fun i t cs h1 h2 h3 => HC.out.2.2 i t cs h1 h2 h3⟩
    · have hd : ((L : Int) == most) = false := by simpa using hq
      have HQ : Hid (¬ (xs.length : Int) + 1 = most) := hLl ▸ hq
      clear hq hLl
      go_wp2
      go_quiet (fail)
      go_wp2
      go_ret
      refine ⟨_, by rw [if_neg HQ.out]; rfl, HC.out.1.drewN _, ⟨HC.out.2.1.os, HC.out.2.1.tape, HC.out.2.1.output, HC.out.2.1.size, HC.out.2.1.block⟩, fun i t cs h1 h2 h3 => HC.out.2.2 i t cs h1 h2 h3⟩

theorem visit_any (T fb off lb mb k : Nat) (most n : Int) (et : Value) (xs : List Int) (cs : Array Value) (v : Value) (w : World) {ws : World} (h : VisSt w ws T fb off lb mb most et cs xs v) (hk : Blk w k 3 #[.int .i64 n]) (hl : xs.length ≤ 2147483647) :
    Calls Tryd.prog 17 #[.pointer (some ⟨k, 0, none⟩), .pointer (some ⟨lb, 0, none⟩), .pointer (some ⟨mb, 0, none⟩)] w (VisOut w ws T fb off lb mb most et cs xs n) :=
  (visit_anyK T fb off lb mb k most n et xs cs v w h hk hl).mono fun _ _ ⟨v', h1, h2, h3, _⟩ => ⟨v', h1, h2, h3⟩
end Go.Proofs.YtjekaagjgamfkaaDoor
