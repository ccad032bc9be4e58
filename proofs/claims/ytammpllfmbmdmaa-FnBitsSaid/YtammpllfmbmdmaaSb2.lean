/- The walk of spec.Bits: the steps that are taken. Printed by gen_sb.py 2. -/
import Derived.Test.YtammpllfmbmdmaaSb
namespace Go.Proofs.Ytammpllfmbmdmaa
open Go.RowKit

/-- What spec.Bits starts from. -/
structure Sb0 (w W : World) (cs : Array Value) : Prop where
  bel : Below w.heap.size w W
  st : Blk W w.heap.size 34 cs
  an : Blk W (w.heap.size + 1) 31 #[.int .i64 0, .bool false, .slice none 0 0, .bool false]
  size : W.heap.size = w.heap.size + 2
theorem sb0 (w : World) (cs : Array Value) : Sb0 w ((w.alloc (.cells cs 34)).alloc (.cells #[.int .i64 0, .bool false, .slice none 0 0, .bool false] 31)) cs :=
  ⟨(start34 w cs #[.int .i64 0, .bool false, .slice none 0 0, .bool false]).1, (Blk.new _ _ _).alloc _, (start34 w cs #[.int .i64 0, .bool false, .slice none 0 0, .bool false]).2.1, (start34 w cs #[.int .i64 0, .bool false, .slice none 0 0, .bool false]).2.2⟩

theorem sb_new {base : Nat} {v v' : Value} {r : List Int × AnsD × Bool} {l' : List Int} {an : AnsD} {b : Bool} {w w1 w' : World} (ho : w1.ownsRow base 3 1 v' l'.length (ints l')) (hc0 : Chg (fun i => v.ownBlock = some i) w w1) (hz : Blk w1 (w.heap.size + 1) 31 #[.int .i64 0, .bool false, .slice none 0 0, .bool false]) (hc : Chg (· = w.heap.size + 1) w1 w') (hr : r = (l', an, b)) :
    SbOut base v r w (.returned (.tuple #[v', .agg (an.cells (.slice none 0 0)), .bool b])) w' := by
  subst hr
  refine ⟨_, rfl, own_chg ho hc (fun g hg e => ?_), hc0.trans hc (fun i hi e => by omega)⟩
  obtain ⟨cs, hcs⟩ := own_blk ho hg
  exact hcs.ne_ hz (by decide) e
theorem sb_size {base n c : Nat} {A : Option Addr} {l : List Int} {w : World} (h : w.ownsRow base 3 1 (.slice A n c) n (ints l)) : l.length = n := by have := h.1; simpa using this
theorem own_elt {base n c i : Nat} {A : Option Addr} {l : List Int} {w : World} (h : w.ownsRow base 3 1 (.slice A n c) n (ints l)) (hi : i < n) : ∃ ad, A = some ad ∧ w.cell? (ad.add i) = some (.int .i64 (l.getD i 0)) ∧ (ad.add i).block < w.heap.size := by
  obtain ⟨A', c', e, hr⟩ := own_reads h
  injection e with e1 _ e2
  subst e1; subst e2
  obtain ⟨ad, u, rfl, hb, hx, hc⟩ := hr.at_ hi
  obtain ⟨rfl, _⟩ := ints_at hx
  exact ⟨ad, rfl, hc, by rw [block_of_add]; exact hb⟩

set_option maxHeartbeats 1000000 in
set_option maxRecDepth 100000 in
theorem sbits_0 (base : Nat) (A : Option Addr) (n c : Nat) (l : List Int) (s : StepD) (LA : Option Addr) (lc : Nat) (w : World) (h : w.ownsRow base 3 1 (.slice A n c) n (ints l)) (_hB : base ≤ w.heap.size) (_hn : n ≤ 10000) (hw : s.what = 0) :
    Calls Try.prog 19 #[.slice A n c, .agg (s.cells (.slice LA s.list.length lc))] w (SbOut base (.slice A n c) (specB l s) w) := by
  have hln : l.length = n := sb_size h
  have hq : specB l s = (l ++ [s.bit], zeroAns, s.bit == 0 || s.bit == 1) := by
    unfold specB
    simp [hw]
  have H := hide h
  have HQ := hide hq
  have HLN := hide hln
  clear h hq hln
  unfold StepD.cells at *
  rw [hw] at ⊢
  clear hw
  obtain ⟨b0, hb0⟩ : ∃ b, (s.bit == 0) = b := ⟨_, rfl⟩
  obtain ⟨b1, hb1⟩ : ∃ b, (s.bit == 1) = b := ⟨_, rfl⟩
  obtain ⟨p, hp⟩ : ∃ p, decide (0 ≤ s.index) = p := ⟨_, rfl⟩
  obtain ⟨q, hq⟩ : ∃ q, decide (s.index < (n : Int)) = q := ⟨_, rfl⟩
  rw [hb0, hb1] at HQ
  have hst := sb0 w #[.int .i64 0, .int .i64 s.which, .int .i64 s.index, .int .i64 s.bit, .int .i64 s.n, .int .i64 s.key, .int .i64 s.value, .slice LA s.list.length lc]
  obtain ⟨i3, hi3, h30, h31, h32⟩ := info_parts info3
  cases p <;> cases q <;> cases b0 <;> cases b1
  all_goals
    try have hp2 : 0 ≤ s.index := of_decide_eq_true hp
    try have hq2 : s.index < (n : Int) := of_decide_eq_true hq
    go_enter Try.func19, Try.ntmps19
    go_wp2_with
      (at_builtin
       generalize hW : (w.alloc (.cells #[.int .i64 0, .int .i64 s.which, .int .i64 s.index, .int .i64 s.bit, .int .i64 s.n, .int .i64 s.key, .int .i64 s.value, .slice LA s.list.length lc] 34)).alloc (.cells #[.int .i64 0, .bool false, .slice none 0 0, .bool false] 31) = W at *
       have HST := hide hst
       clear hst hW
       have hown : (W.alloc (.cells #[.int .i64 s.bit] 3)).ownsRow base 3 1 (.slice A n c) n (ints l) := World.ownsRow.alloc (own_chg H.out (Chg.ofBelow HST.out.bel (fun _ => False)) (fun _ _ h => h)) _
       go_must (refine wpList_append1 rfl _ _ 27 rfl base 3 i3 (.int .i64 0) 8 Try.underlying27 hi3 h30 h31 h32 rfl (.slice A n c) n (ints l) rfl hown _ 1 (.int .i64 s.bit) rfl ((Blk.new_ (n := w.heap.size + 1 + 1) _ 3 #[.int .i64 s.bit] (by have := HST.out.size; omega)).cell 0) rfl (by unfold maxLen; omega) (by omega) (by have := HST.out.size; simp; omega) ?_)
       intro g1 cp w1 hO _ hG hat hg1
       have hz1 := HST.out.an
       have hc1 : Chg (fun i => (Value.slice A n c).ownBlock = some i) W w1 := ((Chg.refl _ W).alloc _).trans (Chg.ofGrown (S := fun k => (Value.slice A n c).ownBlock = some k) hG (fun g hg _ => hg)) (fun i _ h => h)
       have hz : Blk w1 (w.heap.size + 1) 31 #[.int .i64 0, .bool false, .slice none 0 0, .bool false] := (by
         refine hz1.chg hc1 (fun e => ?_)
         have := H.out.lt _ e
         omega)
       have HZ := hide hz
       have HC1 := hide hc1
       have HO := hide hO
       have k0 : w1.cell? ⟨w.heap.size + 1, 0, none⟩ = some (.int .i64 0) := by rw [hz.cell]; rfl
       have k1 : w1.cell? ⟨w.heap.size + 1, 1, none⟩ = some (.bool false) := by rw [hz.cell]; rfl
       have k2 : w1.cell? ⟨w.heap.size + 1, 2, none⟩ = some (.slice none 0 0) := by rw [hz.cell]; rfl
       have k3 : w1.cell? ⟨w.heap.size + 1, 3, none⟩ = some (.bool false) := by rw [hz.cell]; rfl
       have f0 := hz.frozen 0
       have f1 := hz.frozen 1
       have f2 := hz.frozen 2
       have f3 := hz.frozen 3
       clear hz1 hc1 hO hG hat hg1 hz)
    go_wp2
    have hfin : Hid (w1.ownsRow base 3 1 (.slice (some ⟨g1, 0, none⟩) (n + 1) cp) (l ++ [s.bit]).length (ints (l ++ [s.bit]))) := by
      have h1 := HO.out
      rw [show (l ++ [s.bit]).length = n + 1 by rw [List.length_append, HLN.out]; rfl]
      have e2 : ints (l ++ [s.bit]) = ints l ++ [.int .i64 s.bit] := List.map_append
      rw [e2]; exact h1
    have hz9 := (((HZ.out.set_ 0 (.int .i64 0)).set_ 1 (.bool false)).set_ 2 (.slice none 0 0)).set_ 3 (.bool false)
    have hc9 := set4_chg w1 (w.heap.size + 1) (.int .i64 0) (.bool false) (.slice none 0 0) (.bool false)
    generalize (((w1.setCell ⟨w.heap.size + 1, 0, none⟩ (.int .i64 0)).setCell ⟨w.heap.size + 1, 1, none⟩ (.bool false)).setCell ⟨w.heap.size + 1, 2, none⟩ (.slice none 0 0)).setCell ⟨w.heap.size + 1, 3, none⟩ (.bool false) = w9 at *
    have j0 : w9.cell? ⟨w.heap.size + 1, 0, none⟩ = some (.int .i64 0) := by rw [hz9.cell]; rfl
    have j1 : w9.cell? ⟨w.heap.size + 1, 1, none⟩ = some (.bool false) := by rw [hz9.cell]; rfl
    have j2 : w9.cell? ⟨w.heap.size + 1, 2, none⟩ = some (.slice none 0 0) := by rw [hz9.cell]; rfl
    have j3 : w9.cell? ⟨w.heap.size + 1, 3, none⟩ = some (.bool false) := by rw [hz9.cell]; rfl
    first
      | (refine bodyPost_ret (v := .tuple #[.slice (some ⟨g1, 0, none⟩) (n + 1) cp, .agg #[.int .i64 0, .bool false, .slice none 0 0, .bool false], .bool true]) ?_ rfl ?_
         · simp [results, Try.f19, go_sem, j0, j1, j2, j3]
         · exact sb_new (an := zeroAns) hfin.out ((Chg.ofBelow HST.out.bel _).trans HC1.out (fun _ _ h => h)) HZ.out hc9 HQ.out)
      | (refine bodyPost_ret (v := .tuple #[.slice (some ⟨g1, 0, none⟩) (n + 1) cp, .agg #[.int .i64 0, .bool false, .slice none 0 0, .bool false], .bool false]) ?_ rfl ?_
         · simp [results, Try.f19, go_sem, j0, j1, j2, j3]
         · exact sb_new (an := zeroAns) hfin.out ((Chg.ofBelow HST.out.bel _).trans HC1.out (fun _ _ h => h)) HZ.out hc9 HQ.out)

set_option maxHeartbeats 1000000 in
set_option maxRecDepth 100000 in
theorem sbits_5 (base : Nat) (A : Option Addr) (n c : Nat) (l : List Int) (s : StepD) (LA : Option Addr) (lc : Nat) (w : World) (h : w.ownsRow base 3 1 (.slice A n c) n (ints l)) (_hB : base ≤ w.heap.size) (_hn : n ≤ 10000) (hw : s.what = 5) :
    Calls Try.prog 19 #[.slice A n c, .agg (s.cells (.slice LA s.list.length lc))] w (SbOut base (.slice A n c) (specB l s) w) := by
  have hln : l.length = n := sb_size h
  have hq : specB l s = (l, ⟨l.length, false, [], false⟩, true) := by
    unfold specB
    simp [hw]
  have H := hide h
  have HQ := hide hq
  have HLN := hide hln
  clear h hq hln
  unfold StepD.cells at *
  rw [hw] at ⊢
  clear hw
  obtain ⟨b0, hb0⟩ : ∃ b, (s.bit == 0) = b := ⟨_, rfl⟩
  obtain ⟨b1, hb1⟩ : ∃ b, (s.bit == 1) = b := ⟨_, rfl⟩
  obtain ⟨p, hp⟩ : ∃ p, decide (0 ≤ s.index) = p := ⟨_, rfl⟩
  obtain ⟨q, hq⟩ : ∃ q, decide (s.index < (n : Int)) = q := ⟨_, rfl⟩
  have hst := sb0 w #[.int .i64 5, .int .i64 s.which, .int .i64 s.index, .int .i64 s.bit, .int .i64 s.n, .int .i64 s.key, .int .i64 s.value, .slice LA s.list.length lc]
  cases p <;> cases q <;> cases b0 <;> cases b1
  all_goals
    try have hp2 : 0 ≤ s.index := of_decide_eq_true hp
    try have hq2 : s.index < (n : Int) := of_decide_eq_true hq
    go_enter Try.func19, Try.ntmps19
    go_wp2
    refine bodyPost_ret (v := .tuple #[.slice A n c, .agg #[.int .i64 n, .bool false, .slice none 0 0, .bool false], .bool true]) ?_ rfl ?_
    · simp [results, Try.f19, go_sem]
    · have hg : Below w.heap.size w ((w.alloc (.cells #[.int .i64 5, .int .i64 s.which, .int .i64 s.index, .int .i64 s.bit, .int .i64 s.n, .int .i64 s.key, .int .i64 s.value, .slice LA s.list.length lc] 34)).alloc (.cells #[.int .i64 n, .bool false, .slice none 0 0, .bool false] 31)) := (start34 w _ _).1
      rw [HQ.out]
      refine ⟨.slice A n c, ?_, ?_, Chg.ofBelow hg _⟩
      · rw [HLN.out]; rfl
      · rw [HLN.out]
        exact own_chg H.out (Chg.ofBelow hg (fun _ => False)) (fun _ _ h => h)

set_option maxHeartbeats 1000000 in
set_option maxRecDepth 100000 in
theorem sbits_4 (base : Nat) (A : Option Addr) (n c : Nat) (l : List Int) (s : StepD) (LA : Option Addr) (lc : Nat) (w : World) (h : w.ownsRow base 3 1 (.slice A n c) n (ints l)) (_hB : base ≤ w.heap.size) (_hn : n ≤ 10000) (hw : s.what = 4) (i : Nat) (hidx : s.index = i) (hil : i < l.length) :
    Calls Try.prog 19 #[.slice A n c, .agg (s.cells (.slice LA s.list.length lc))] w (SbOut base (.slice A n c) (specB l s) w) := by
  have hln : l.length = n := sb_size h
  have hq : specB l s = (l, ⟨l.getD i 0, false, [], false⟩, true) := by
    unfold specB
    simp [hw, hidx, hil]
  have H := hide h
  have HQ := hide hq
  have HLN := hide hln
  rw [hln] at hil
  clear h hq hln
  unfold StepD.cells at *
  rw [hw] at ⊢
  rw [hidx] at ⊢
  have hi0 : (0 : Int) ≤ (i : Int) := by omega
  have hin : (i : Int) < (n : Int) := by omega
  clear hidx hw
  obtain ⟨b0, hb0⟩ : ∃ b, (s.bit == 0) = b := ⟨_, rfl⟩
  obtain ⟨b1, hb1⟩ : ∃ b, (s.bit == 1) = b := ⟨_, rfl⟩
  have hst := sb0 w #[.int .i64 4, .int .i64 s.which, .int .i64 i, .int .i64 s.bit, .int .i64 s.n, .int .i64 s.key, .int .i64 s.value, .slice LA s.list.length lc]
  obtain ⟨ad, rfl, hce, hcl⟩ := own_elt H.out hil
  obtain ⟨x, hx⟩ : ∃ x, x = l.getD i 0 := ⟨_, rfl⟩
  rw [← hx] at hce HQ
  clear hx
  cases b0 <;> cases b1
  all_goals
    go_enter Try.func19, Try.ntmps19
    have hcW : ((w.alloc (.cells #[.int .i64 4, .int .i64 s.which, .int .i64 i, .int .i64 s.bit, .int .i64 s.n, .int .i64 s.key, .int .i64 s.value, .slice LA s.list.length lc] 34)).alloc (.cells #[.int .i64 0, .bool false, .slice none 0 0, .bool false] 31)).cell? (ad.add i) = some (.int .i64 x) := (hst.bel.cell hcl).trans hce
    go_wp2
    go_region
    all_goals
      go_wp2
      refine bodyPost_ret (v := .tuple #[.slice (some ad) n c, .agg #[.int .i64 x, .bool false, .slice none 0 0, .bool false], .bool true]) ?_ rfl ?_
      · simp [results, Try.f19, go_sem]
      · have hg : Gr w ((w.alloc (.cells #[.int .i64 4, .int .i64 s.which, .int .i64 i, .int .i64 s.bit, .int .i64 s.n, .int .i64 s.key, .int .i64 s.value, .slice LA s.list.length lc] 34)).alloc (.cells #[.int .i64 x, .bool false, .slice none 0 0, .bool false] 31)).drew := (Chg.ofBelow (start34 w _ _).1 _).drew
        rw [HQ.out]
        refine ⟨.slice (some ad) n c, rfl, ?_, hg.mono (fun _ _ h => h.elim)⟩
        rw [HLN.out]
        exact own_chg H.out hg (fun _ _ h => h)

set_option maxHeartbeats 1000000 in
set_option maxRecDepth 100000 in
theorem sbits_2 (base : Nat) (A : Option Addr) (n c : Nat) (l : List Int) (s : StepD) (LA : Option Addr) (lc : Nat) (w : World) (h : w.ownsRow base 3 1 (.slice A n c) n (ints l)) (_hB : base ≤ w.heap.size) (_hn : n ≤ 10000) (hw : s.what = 2) (i : Nat) (hidx : s.index = i) (hil : i < l.length) (hbit : s.bit = 0 ∨ s.bit = 1) :
    Calls Try.prog 19 #[.slice A n c, .agg (s.cells (.slice LA s.list.length lc))] w (SbOut base (.slice A n c) (specB l s) w) := by
  have hln : l.length = n := sb_size h
  have hq : specB l s = (l.take i ++ s.bit :: l.drop i, zeroAns, true) := by
    unfold specB
    simp [hw, hidx, hil, hbit]
  have H := hide h
  have HQ := hide hq
  have HLN := hide hln
  rw [hln] at hil
  have HBIT := hide hbit
  clear hbit
  clear h hq hln
  unfold StepD.cells at *
  rw [hw] at ⊢
  rw [hidx] at ⊢
  have hi0 : (0 : Int) ≤ (i : Int) := by omega
  have hin : (i : Int) < (n : Int) := by omega
  clear hidx hw
  rcases HBIT.out with hb | hb
  · rw [hb] at HQ ⊢
    have hst := sb0 w #[.int .i64 2, .int .i64 s.which, .int .i64 i, .int .i64 0, .int .i64 s.n, .int .i64 s.key, .int .i64 s.value, .slice LA s.list.length lc]
    go_enter Try.func19, Try.ntmps19
    go_wp2_with fail
    generalize hW : (w.alloc (.cells #[.int .i64 2, .int .i64 s.which, .int .i64 i, .int .i64 0, .int .i64 s.n, .int .i64 s.key, .int .i64 s.value, .slice LA s.list.length lc] 34)).alloc (.cells #[.int .i64 0, .bool false, .slice none 0 0, .bool false] 31) = W at *
    have HST := hide hst
    clear hst hW
    refine (with_any _ A n c i l 0 W (SliceIs.of_own (own_chg H.out (Chg.ofBelow HST.out.bel (fun _ => False)) (fun _ _ h => h))) (by omega) (by omega)).mono ?_
    rintro e w1 ⟨v', rfl, ho1, hg1⟩
    obtain ⟨RA, rc, rfl, _⟩ := own_reads ho1
    have hz : Blk w1 (w.heap.size + 1) 31 #[.int .i64 0, .bool false, .slice none 0 0, .bool false] := HST.out.an.chg hg1 (fun h => h)
    have HO := hide (own_base (base' := base) ho1 (by have := HST.out.size; omega))
    have HG := hide hg1
    have HZ := hide hz
    have k0 : w1.cell? ⟨w.heap.size + 1, 0, none⟩ = some (.int .i64 0) := by rw [hz.cell]; rfl
    have k1 : w1.cell? ⟨w.heap.size + 1, 1, none⟩ = some (.bool false) := by rw [hz.cell]; rfl
    have k2 : w1.cell? ⟨w.heap.size + 1, 2, none⟩ = some (.slice none 0 0) := by rw [hz.cell]; rfl
    have k3 : w1.cell? ⟨w.heap.size + 1, 3, none⟩ = some (.bool false) := by rw [hz.cell]; rfl
    have f0 := hz.frozen 0
    have f1 := hz.frozen 1
    have f2 := hz.frozen 2
    have f3 := hz.frozen 3
    clear ho1 hg1 hz
    go_wp2
    have hfin : Hid (w1.ownsRow base 3 1 (.slice RA (n + 1) rc) (l.take i ++ 0 :: l.drop i).length (ints (l.take i ++ 0 :: l.drop i))) := by
      rw [show (l.take i ++ 0 :: l.drop i).length = n + 1 by have := HLN.out; simp; omega]
      exact HO.out
    have hz9 := (((HZ.out.set_ 0 (.int .i64 0)).set_ 1 (.bool false)).set_ 2 (.slice none 0 0)).set_ 3 (.bool false)
    have hc9 := set4_chg w1 (w.heap.size + 1) (.int .i64 0) (.bool false) (.slice none 0 0) (.bool false)
    generalize (((w1.setCell ⟨w.heap.size + 1, 0, none⟩ (.int .i64 0)).setCell ⟨w.heap.size + 1, 1, none⟩ (.bool false)).setCell ⟨w.heap.size + 1, 2, none⟩ (.slice none 0 0)).setCell ⟨w.heap.size + 1, 3, none⟩ (.bool false) = w9 at *
    have j0 : w9.cell? ⟨w.heap.size + 1, 0, none⟩ = some (.int .i64 0) := by rw [hz9.cell]; rfl
    have j1 : w9.cell? ⟨w.heap.size + 1, 1, none⟩ = some (.bool false) := by rw [hz9.cell]; rfl
    have j2 : w9.cell? ⟨w.heap.size + 1, 2, none⟩ = some (.slice none 0 0) := by rw [hz9.cell]; rfl
    have j3 : w9.cell? ⟨w.heap.size + 1, 3, none⟩ = some (.bool false) := by rw [hz9.cell]; rfl
    refine bodyPost_ret (v := .tuple #[.slice RA (n + 1) rc, .agg #[.int .i64 0, .bool false, .slice none 0 0, .bool false], .bool true]) ?_ rfl ?_
    · simp [results, Try.f19, go_sem, j0, j1, j2, j3]
    · exact sb_new (an := zeroAns) hfin.out ((Chg.ofBelow HST.out.bel _).trans HG.out (fun _ _ h => h.elim)) HZ.out hc9 HQ.out
  · rw [hb] at HQ ⊢
    have hst := sb0 w #[.int .i64 2, .int .i64 s.which, .int .i64 i, .int .i64 1, .int .i64 s.n, .int .i64 s.key, .int .i64 s.value, .slice LA s.list.length lc]
    go_enter Try.func19, Try.ntmps19
    go_wp2_with fail
    generalize hW : (w.alloc (.cells #[.int .i64 2, .int .i64 s.which, .int .i64 i, .int .i64 1, .int .i64 s.n, .int .i64 s.key, .int .i64 s.value, .slice LA s.list.length lc] 34)).alloc (.cells #[.int .i64 0, .bool false, .slice none 0 0, .bool false] 31) = W at *
    have HST := hide hst
    clear hst hW
    refine (with_any _ A n c i l 1 W (SliceIs.of_own (own_chg H.out (Chg.ofBelow HST.out.bel (fun _ => False)) (fun _ _ h => h))) (by omega) (by omega)).mono ?_
    rintro e w1 ⟨v', rfl, ho1, hg1⟩
    obtain ⟨RA, rc, rfl, _⟩ := own_reads ho1
    have hz : Blk w1 (w.heap.size + 1) 31 #[.int .i64 0, .bool false, .slice none 0 0, .bool false] := HST.out.an.chg hg1 (fun h => h)
    have HO := hide (own_base (base' := base) ho1 (by have := HST.out.size; omega))
    have HG := hide hg1
    have HZ := hide hz
    have k0 : w1.cell? ⟨w.heap.size + 1, 0, none⟩ = some (.int .i64 0) := by rw [hz.cell]; rfl
    have k1 : w1.cell? ⟨w.heap.size + 1, 1, none⟩ = some (.bool false) := by rw [hz.cell]; rfl
    have k2 : w1.cell? ⟨w.heap.size + 1, 2, none⟩ = some (.slice none 0 0) := by rw [hz.cell]; rfl
    have k3 : w1.cell? ⟨w.heap.size + 1, 3, none⟩ = some (.bool false) := by rw [hz.cell]; rfl
    have f0 := hz.frozen 0
    have f1 := hz.frozen 1
    have f2 := hz.frozen 2
    have f3 := hz.frozen 3
    clear ho1 hg1 hz
    go_wp2
    have hfin : Hid (w1.ownsRow base 3 1 (.slice RA (n + 1) rc) (l.take i ++ 1 :: l.drop i).length (ints (l.take i ++ 1 :: l.drop i))) := by
      rw [show (l.take i ++ 1 :: l.drop i).length = n + 1 by have := HLN.out; simp; omega]
      exact HO.out
    have hz9 := (((HZ.out.set_ 0 (.int .i64 0)).set_ 1 (.bool false)).set_ 2 (.slice none 0 0)).set_ 3 (.bool false)
    have hc9 := set4_chg w1 (w.heap.size + 1) (.int .i64 0) (.bool false) (.slice none 0 0) (.bool false)
    generalize (((w1.setCell ⟨w.heap.size + 1, 0, none⟩ (.int .i64 0)).setCell ⟨w.heap.size + 1, 1, none⟩ (.bool false)).setCell ⟨w.heap.size + 1, 2, none⟩ (.slice none 0 0)).setCell ⟨w.heap.size + 1, 3, none⟩ (.bool false) = w9 at *
    have j0 : w9.cell? ⟨w.heap.size + 1, 0, none⟩ = some (.int .i64 0) := by rw [hz9.cell]; rfl
    have j1 : w9.cell? ⟨w.heap.size + 1, 1, none⟩ = some (.bool false) := by rw [hz9.cell]; rfl
    have j2 : w9.cell? ⟨w.heap.size + 1, 2, none⟩ = some (.slice none 0 0) := by rw [hz9.cell]; rfl
    have j3 : w9.cell? ⟨w.heap.size + 1, 3, none⟩ = some (.bool false) := by rw [hz9.cell]; rfl
    refine bodyPost_ret (v := .tuple #[.slice RA (n + 1) rc, .agg #[.int .i64 0, .bool false, .slice none 0 0, .bool false], .bool true]) ?_ rfl ?_
    · simp [results, Try.f19, go_sem, j0, j1, j2, j3]
    · exact sb_new (an := zeroAns) hfin.out ((Chg.ofBelow HST.out.bel _).trans HG.out (fun _ _ h => h.elim)) HZ.out hc9 HQ.out

set_option maxHeartbeats 1000000 in
set_option maxRecDepth 100000 in
theorem sbits_3 (base : Nat) (A : Option Addr) (n c : Nat) (l : List Int) (s : StepD) (LA : Option Addr) (lc : Nat) (w : World) (h : w.ownsRow base 3 1 (.slice A n c) n (ints l)) (_hB : base ≤ w.heap.size) (_hn : n ≤ 10000) (hw : s.what = 3) (i : Nat) (hidx : s.index = i) (hil : i < l.length) :
    Calls Try.prog 19 #[.slice A n c, .agg (s.cells (.slice LA s.list.length lc))] w (SbOut base (.slice A n c) (specB l s) w) := by
  have hln : l.length = n := sb_size h
  have hq : specB l s = (l.eraseIdx i, zeroAns, true) := by
    unfold specB
    simp [hw, hidx, hil]
  have H := hide h
  have HQ := hide hq
  have HLN := hide hln
  rw [hln] at hil
  clear h hq hln
  unfold StepD.cells at *
  rw [hw] at ⊢
  rw [hidx] at ⊢
  have hi0 : (0 : Int) ≤ (i : Int) := by omega
  have hin : (i : Int) < (n : Int) := by omega
  clear hidx hw
  obtain ⟨b0, hb0⟩ : ∃ b, (s.bit == 0) = b := ⟨_, rfl⟩
  obtain ⟨b1, hb1⟩ : ∃ b, (s.bit == 1) = b := ⟨_, rfl⟩
  have hst := sb0 w #[.int .i64 3, .int .i64 s.which, .int .i64 i, .int .i64 s.bit, .int .i64 s.n, .int .i64 s.key, .int .i64 s.value, .slice LA s.list.length lc]
  obtain ⟨ad, rfl, _, _⟩ := own_elt H.out hil
  cases b0 <;> cases b1
  all_goals
    go_enter Try.func19, Try.ntmps19
    go_wp2_with fail
    generalize hW : (w.alloc (.cells #[.int .i64 3, .int .i64 s.which, .int .i64 i, .int .i64 s.bit, .int .i64 s.n, .int .i64 s.key, .int .i64 s.value, .slice LA s.list.length lc] 34)).alloc (.cells #[.int .i64 0, .bool false, .slice none 0 0, .bool false] 31) = W at *
    have HST := hide hst
    clear hst hW
    refine (without_own _ ad n c i l W (SliceIs.of_own (own_chg H.out (Chg.ofBelow HST.out.bel (fun _ => False)) (fun _ _ h => h))) hil (by omega)).mono ?_
    rintro e w1 ⟨RA, rc, rfl, ho1, hb1⟩
    have hg1 := Gr.ofBelow hb1
    clear hb1
    have hz : Blk w1 (w.heap.size + 1) 31 #[.int .i64 0, .bool false, .slice none 0 0, .bool false] := HST.out.an.chg hg1 (fun h => h)
    have HO := hide (own_base (base' := base) ho1 (by have := HST.out.size; omega))
    have HG := hide hg1
    have HZ := hide hz
    have k0 : w1.cell? ⟨w.heap.size + 1, 0, none⟩ = some (.int .i64 0) := by rw [hz.cell]; rfl
    have k1 : w1.cell? ⟨w.heap.size + 1, 1, none⟩ = some (.bool false) := by rw [hz.cell]; rfl
    have k2 : w1.cell? ⟨w.heap.size + 1, 2, none⟩ = some (.slice none 0 0) := by rw [hz.cell]; rfl
    have k3 : w1.cell? ⟨w.heap.size + 1, 3, none⟩ = some (.bool false) := by rw [hz.cell]; rfl
    have f0 := hz.frozen 0
    have f1 := hz.frozen 1
    have f2 := hz.frozen 2
    have f3 := hz.frozen 3
    clear ho1 hg1 hz
    go_wp2
    have hfin : Hid (w1.ownsRow base 3 1 (.slice RA (n - 1) rc) (l.eraseIdx i).length (ints (l.eraseIdx i))) := by
      rw [show (l.eraseIdx i).length = n - 1 by rw [List.length_eraseIdx, if_pos (by have := HLN.out; omega), HLN.out]]
      exact HO.out
    have hz9 := (((HZ.out.set_ 0 (.int .i64 0)).set_ 1 (.bool false)).set_ 2 (.slice none 0 0)).set_ 3 (.bool false)
    have hc9 := set4_chg w1 (w.heap.size + 1) (.int .i64 0) (.bool false) (.slice none 0 0) (.bool false)
    generalize (((w1.setCell ⟨w.heap.size + 1, 0, none⟩ (.int .i64 0)).setCell ⟨w.heap.size + 1, 1, none⟩ (.bool false)).setCell ⟨w.heap.size + 1, 2, none⟩ (.slice none 0 0)).setCell ⟨w.heap.size + 1, 3, none⟩ (.bool false) = w9 at *
    have j0 : w9.cell? ⟨w.heap.size + 1, 0, none⟩ = some (.int .i64 0) := by rw [hz9.cell]; rfl
    have j1 : w9.cell? ⟨w.heap.size + 1, 1, none⟩ = some (.bool false) := by rw [hz9.cell]; rfl
    have j2 : w9.cell? ⟨w.heap.size + 1, 2, none⟩ = some (.slice none 0 0) := by rw [hz9.cell]; rfl
    have j3 : w9.cell? ⟨w.heap.size + 1, 3, none⟩ = some (.bool false) := by rw [hz9.cell]; rfl
    refine bodyPost_ret (v := .tuple #[.slice RA (n - 1) rc, .agg #[.int .i64 0, .bool false, .slice none 0 0, .bool false], .bool true]) ?_ rfl ?_
    · simp [results, Try.f19, go_sem, j0, j1, j2, j3]
    · exact sb_new (an := zeroAns) hfin.out ((Chg.ofBelow HST.out.bel _).trans HG.out (fun _ _ h => h.elim)) HZ.out hc9 HQ.out

set_option maxHeartbeats 1000000 in
set_option maxRecDepth 100000 in
theorem sbits_1 (base : Nat) (A : Option Addr) (n c : Nat) (l : List Int) (s : StepD) (LA : Option Addr) (lc : Nat) (w : World) (h : w.ownsRow base 3 1 (.slice A n c) n (ints l)) (_hB : base ≤ w.heap.size) (_hn : n ≤ 10000) (hw : s.what = 1) (i : Nat) (hidx : s.index = i) (hil : i < l.length) (hbit : s.bit = 0 ∨ s.bit = 1) :
    Calls Try.prog 19 #[.slice A n c, .agg (s.cells (.slice LA s.list.length lc))] w (SbOut base (.slice A n c) (specB l s) w) := by
  have hln : l.length = n := sb_size h
  have hq : specB l s = (l.set i s.bit, zeroAns, true) := by
    unfold specB
    simp [hw, hidx, hil, hbit]
  have H := hide h
  have HQ := hide hq
  have HLN := hide hln
  rw [hln] at hil
  have HBIT := hide hbit
  clear hbit
  clear h hq hln
  unfold StepD.cells at *
  rw [hw] at ⊢
  rw [hidx] at ⊢
  have hi0 : (0 : Int) ≤ (i : Int) := by omega
  have hin : (i : Int) < (n : Int) := by omega
  clear hidx hw
  obtain ⟨ad, rfl, _, _⟩ := own_elt H.out hil
  rcases HBIT.out with hb | hb
  · rw [hb] at HQ ⊢
    have hst := sb0 w #[.int .i64 1, .int .i64 s.which, .int .i64 i, .int .i64 0, .int .i64 s.n, .int .i64 s.key, .int .i64 s.value, .slice LA s.list.length lc]
    go_enter Try.func19, Try.ntmps19
    go_wp2
    generalize hW : (w.alloc (.cells #[.int .i64 1, .int .i64 s.which, .int .i64 i, .int .i64 0, .int .i64 s.n, .int .i64 s.key, .int .i64 s.value, .slice LA s.list.length lc] 34)).alloc (.cells #[.int .i64 0, .bool false, .slice none 0 0, .bool false] 31) = W at *
    have HST := hide hst
    clear hst hW
    have HSL0 := hide (SliceIs.of_own (own_chg H.out ((Chg.ofBelow HST.out.bel (fun _ => False)).drew) (fun _ _ h => h)))
    have HSTI : Hid (Blk W.drew w.heap.size 34 #[.int .i64 1, .int .i64 s.which, .int .i64 i, .int .i64 0, .int .i64 s.n, .int .i64 s.key, .int .i64 s.value, .slice LA s.list.length lc]) := Blk.drew_ HST.out.st
    have HANI : Hid (Blk W.drew (w.heap.size + 1) 31 #[.int .i64 0, .bool false, .slice none 0 0, .bool false]) := Blk.drew_ HST.out.an
    have q2 : W.cell? ⟨w.heap.size, 2, none⟩ = some (.int .i64 i) := by rw [HST.out.st.cell]; rfl
    have q3 : W.cell? ⟨w.heap.size, 3, none⟩ = some (.int .i64 0) := by rw [HST.out.st.cell]; rfl
    go_region_law
      ((first
        | (go_simp
           go_at_call 62
           refine (without_own _ ad n c i l _ HSL0.out hil (by omega)).mono ?_
           rintro e w2 ⟨A2, c2, rfl, ho2, hb2⟩
           have hg2 := Gr.ofBelow hb2
           have HO2 := hide ho2
           have HG2 := hide hg2
           have hz2 := HANI.out.chg hg2 (fun h => h)
           have HZ2 := hide hz2
           have p2 : w2.cell? ⟨w.heap.size, 2, none⟩ = some (.int .i64 i) := by rw [(HSTI.out.chg hg2 (fun h => h)).cell]; rfl
           have p3 : w2.cell? ⟨w.heap.size, 3, none⟩ = some (.int .i64 0) := by rw [(HSTI.out.chg hg2 (fun h => h)).cell]; rfl
           clear ho2 hg2 hb2 hz2)
        | (go_simp
           go_at_call 61
           refine (with_any _ A2 (n - 1) c2 i (l.eraseIdx i) 0 _ (SliceIs.of_own HO2.out) (by omega) (by omega)).mono ?_
           rintro e w1 ⟨v', rfl, ho1, hg1⟩
           obtain ⟨RA, rc, rfl, _⟩ := own_reads ho1
           have hz : Blk w1 (w.heap.size + 1) 31 #[.int .i64 0, .bool false, .slice none 0 0, .bool false] := HZ2.out.chg hg1 (fun h => h)
           have HO := hide (own_base (base' := base) ho1 (by have := HST.out.size; have := HG2.out.size; simp at this; omega))
           have HG := hide (((Chg.refl (fun _ => False) W).drew.trans HG2.out (fun _ _ h => h)).trans hg1 (fun _ _ h => h))
           have HZ := hide hz
           have k0 : w1.cell? ⟨w.heap.size + 1, 0, none⟩ = some (.int .i64 0) := by rw [hz.cell]; rfl
           have k1 : w1.cell? ⟨w.heap.size + 1, 1, none⟩ = some (.bool false) := by rw [hz.cell]; rfl
           have k2 : w1.cell? ⟨w.heap.size + 1, 2, none⟩ = some (.slice none 0 0) := by rw [hz.cell]; rfl
           have k3 : w1.cell? ⟨w.heap.size + 1, 3, none⟩ = some (.bool false) := by rw [hz.cell]; rfl
           have f0 := hz.frozen 0
           have f1 := hz.frozen 1
           have f2 := hz.frozen 2
           have f3 := hz.frozen 3
           clear ho1 hg1 hz)
        | fail))
    all_goals
      go_wp2
      have hfin : Hid (w1.ownsRow base 3 1 (.slice RA (n - 1 + 1) rc) (l.set i 0).length (ints (l.set i 0))) := by
        have h1 := HO.out
        rw [erase_with l i 0 (by have := HLN.out; omega)] at h1
        rw [List.length_set, show l.length = n - 1 + 1 by have := HLN.out; omega]
        exact h1
      have hz9 := (((HZ.out.set_ 0 (.int .i64 0)).set_ 1 (.bool false)).set_ 2 (.slice none 0 0)).set_ 3 (.bool false)
      have hc9 := set4_chg w1 (w.heap.size + 1) (.int .i64 0) (.bool false) (.slice none 0 0) (.bool false)
      generalize (((w1.setCell ⟨w.heap.size + 1, 0, none⟩ (.int .i64 0)).setCell ⟨w.heap.size + 1, 1, none⟩ (.bool false)).setCell ⟨w.heap.size + 1, 2, none⟩ (.slice none 0 0)).setCell ⟨w.heap.size + 1, 3, none⟩ (.bool false) = w9 at *
      have j0 : w9.cell? ⟨w.heap.size + 1, 0, none⟩ = some (.int .i64 0) := by rw [hz9.cell]; rfl
      have j1 : w9.cell? ⟨w.heap.size + 1, 1, none⟩ = some (.bool false) := by rw [hz9.cell]; rfl
      have j2 : w9.cell? ⟨w.heap.size + 1, 2, none⟩ = some (.slice none 0 0) := by rw [hz9.cell]; rfl
      have j3 : w9.cell? ⟨w.heap.size + 1, 3, none⟩ = some (.bool false) := by rw [hz9.cell]; rfl
      refine bodyPost_ret (v := .tuple #[.slice RA (n - 1 + 1) rc, .agg #[.int .i64 0, .bool false, .slice none 0 0, .bool false], .bool true]) ?_ rfl ?_
      · simp [results, Try.f19, go_sem, j0, j1, j2, j3]
      · exact sb_new (an := zeroAns) hfin.out ((Chg.ofBelow HST.out.bel _).trans HG.out (fun _ _ h => h.elim)) HZ.out hc9 HQ.out
  · rw [hb] at HQ ⊢
    have hst := sb0 w #[.int .i64 1, .int .i64 s.which, .int .i64 i, .int .i64 1, .int .i64 s.n, .int .i64 s.key, .int .i64 s.value, .slice LA s.list.length lc]
    go_enter Try.func19, Try.ntmps19
    go_wp2
    generalize hW : (w.alloc (.cells #[.int .i64 1, .int .i64 s.which, .int .i64 i, .int .i64 1, .int .i64 s.n, .int .i64 s.key, .int .i64 s.value, .slice LA s.list.length lc] 34)).alloc (.cells #[.int .i64 0, .bool false, .slice none 0 0, .bool false] 31) = W at *
    have HST := hide hst
    clear hst hW
    have HSL0 := hide (SliceIs.of_own (own_chg H.out ((Chg.ofBelow HST.out.bel (fun _ => False)).drew) (fun _ _ h => h)))
    have HSTI : Hid (Blk W.drew w.heap.size 34 #[.int .i64 1, .int .i64 s.which, .int .i64 i, .int .i64 1, .int .i64 s.n, .int .i64 s.key, .int .i64 s.value, .slice LA s.list.length lc]) := Blk.drew_ HST.out.st
    have HANI : Hid (Blk W.drew (w.heap.size + 1) 31 #[.int .i64 0, .bool false, .slice none 0 0, .bool false]) := Blk.drew_ HST.out.an
    have q2 : W.cell? ⟨w.heap.size, 2, none⟩ = some (.int .i64 i) := by rw [HST.out.st.cell]; rfl
    have q3 : W.cell? ⟨w.heap.size, 3, none⟩ = some (.int .i64 1) := by rw [HST.out.st.cell]; rfl
    go_region_law
      ((first
        | (go_simp
           go_at_call 62
           refine (without_own _ ad n c i l _ HSL0.out hil (by omega)).mono ?_
           rintro e w2 ⟨A2, c2, rfl, ho2, hb2⟩
           have hg2 := Gr.ofBelow hb2
           have HO2 := hide ho2
           have HG2 := hide hg2
           have hz2 := HANI.out.chg hg2 (fun h => h)
           have HZ2 := hide hz2
           have p2 : w2.cell? ⟨w.heap.size, 2, none⟩ = some (.int .i64 i) := by rw [(HSTI.out.chg hg2 (fun h => h)).cell]; rfl
           have p3 : w2.cell? ⟨w.heap.size, 3, none⟩ = some (.int .i64 1) := by rw [(HSTI.out.chg hg2 (fun h => h)).cell]; rfl
           clear ho2 hg2 hb2 hz2)
        | (go_simp
           go_at_call 61
           refine (with_any _ A2 (n - 1) c2 i (l.eraseIdx i) 1 _ (SliceIs.of_own HO2.out) (by omega) (by omega)).mono ?_
           rintro e w1 ⟨v', rfl, ho1, hg1⟩
           obtain ⟨RA, rc, rfl, _⟩ := own_reads ho1
           have hz : Blk w1 (w.heap.size + 1) 31 #[.int .i64 0, .bool false, .slice none 0 0, .bool false] := HZ2.out.chg hg1 (fun h => h)
           have HO := hide (own_base (base' := base) ho1 (by have := HST.out.size; have := HG2.out.size; simp at this; omega))
           have HG := hide (((Chg.refl (fun _ => False) W).drew.trans HG2.out (fun _ _ h => h)).trans hg1 (fun _ _ h => h))
           have HZ := hide hz
           have k0 : w1.cell? ⟨w.heap.size + 1, 0, none⟩ = some (.int .i64 0) := by rw [hz.cell]; rfl
           have k1 : w1.cell? ⟨w.heap.size + 1, 1, none⟩ = some (.bool false) := by rw [hz.cell]; rfl
           have k2 : w1.cell? ⟨w.heap.size + 1, 2, none⟩ = some (.slice none 0 0) := by rw [hz.cell]; rfl
           have k3 : w1.cell? ⟨w.heap.size + 1, 3, none⟩ = some (.bool false) := by rw [hz.cell]; rfl
           have f0 := hz.frozen 0
           have f1 := hz.frozen 1
           have f2 := hz.frozen 2
           have f3 := hz.frozen 3
           clear ho1 hg1 hz)
        | fail))
    all_goals
      go_wp2
      have hfin : Hid (w1.ownsRow base 3 1 (.slice RA (n - 1 + 1) rc) (l.set i 1).length (ints (l.set i 1))) := by
        have h1 := HO.out
        rw [erase_with l i 1 (by have := HLN.out; omega)] at h1
        rw [List.length_set, show l.length = n - 1 + 1 by have := HLN.out; omega]
        exact h1
      have hz9 := (((HZ.out.set_ 0 (.int .i64 0)).set_ 1 (.bool false)).set_ 2 (.slice none 0 0)).set_ 3 (.bool false)
      have hc9 := set4_chg w1 (w.heap.size + 1) (.int .i64 0) (.bool false) (.slice none 0 0) (.bool false)
      generalize (((w1.setCell ⟨w.heap.size + 1, 0, none⟩ (.int .i64 0)).setCell ⟨w.heap.size + 1, 1, none⟩ (.bool false)).setCell ⟨w.heap.size + 1, 2, none⟩ (.slice none 0 0)).setCell ⟨w.heap.size + 1, 3, none⟩ (.bool false) = w9 at *
      have j0 : w9.cell? ⟨w.heap.size + 1, 0, none⟩ = some (.int .i64 0) := by rw [hz9.cell]; rfl
      have j1 : w9.cell? ⟨w.heap.size + 1, 1, none⟩ = some (.bool false) := by rw [hz9.cell]; rfl
      have j2 : w9.cell? ⟨w.heap.size + 1, 2, none⟩ = some (.slice none 0 0) := by rw [hz9.cell]; rfl
      have j3 : w9.cell? ⟨w.heap.size + 1, 3, none⟩ = some (.bool false) := by rw [hz9.cell]; rfl
      refine bodyPost_ret (v := .tuple #[.slice RA (n - 1 + 1) rc, .agg #[.int .i64 0, .bool false, .slice none 0 0, .bool false], .bool true]) ?_ rfl ?_
      · simp [results, Try.f19, go_sem, j0, j1, j2, j3]
      · exact sb_new (an := zeroAns) hfin.out ((Chg.ofBelow HST.out.bel _).trans HG.out (fun _ _ h => h.elim)) HZ.out hc9 HQ.out

end Go.Proofs.Ytammpllfmbmdmaa
