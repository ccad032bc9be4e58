/- The walk of spec.Bits. Printed by gen_sb.py. -/
import Derived.Test.YtammpllfmbmdmaaBw
import Derived.Test.YtammpllfmbmdmaaBc
namespace Go.Proofs.Ytammpllfmbmdmaa
open Go.RowKit

/-- What spec.Bits answers. -/
def specB (l : List Int) (s : StepD) : List Int × AnsD × Bool :=
  if s.what = 0 then (l ++ [s.bit], zeroAns, s.bit == 0 || s.bit == 1)
  else if s.what = 1 ∧ (0 ≤ s.index ∧ s.index < l.length) ∧ (s.bit = 0 ∨ s.bit = 1) then (l.set s.index.toNat s.bit, zeroAns, true)
  else if s.what = 2 ∧ (0 ≤ s.index ∧ s.index < l.length) ∧ (s.bit = 0 ∨ s.bit = 1) then (l.take s.index.toNat ++ s.bit :: l.drop s.index.toNat, zeroAns, true)
  else if s.what = 3 ∧ (0 ≤ s.index ∧ s.index < l.length) then (l.eraseIdx s.index.toNat, zeroAns, true)
  else if s.what = 4 ∧ (0 ≤ s.index ∧ s.index < l.length) then (l, ⟨l.getD s.index.toNat 0, false, [], false⟩, true)
  else if s.what = 5 then (l, ⟨l.length, false, [], false⟩, true)
  else (l, zeroAns, false)

/-- What spec.Bits hands back. -/
def SbOut (base : Nat) (v : Value) (r : List Int × AnsD × Bool) (w : World) (e : Ending) (w' : World) : Prop :=
  ∃ v', e = .returned (.tuple #[v', .agg (r.2.1.cells (.slice none 0 0)), .bool r.2.2]) ∧ w'.ownsRow base 3 1 v' r.1.length (ints r.1) ∧ Chg (fun i => v.ownBlock = some i) w w'

theorem sb_same {base n c : Nat} {A : Option Addr} {l : List Int} {r : List Int × AnsD × Bool} {an : AnsD} {b : Bool} {w w1 w' : World} (ho : w.ownsRow base 3 1 (.slice A n c) n (ints l)) (hst : Below w.heap.size w w1) (hc : Chg (· = w.heap.size + 1) w1 w') (hr : r = (l, an, b)) (hl : l.length = n) :
    SbOut base (.slice A n c) r w (.returned (.tuple #[.slice A n c, .agg (an.cells (.slice none 0 0)), .bool b])) w' := by
  subst hr
  subst hl
  have hall : Gr w w' := (Chg.ofBelow hst _).trans hc (fun i hi e => by omega)
  exact ⟨_, rfl, own_chg ho hall (fun _ _ h => h), hall.mono (fun _ _ h => h.elim)⟩

theorem erase_with (l : List Int) (i : Nat) (x : Int) (hi : i < l.length) : (l.eraseIdx i).take i ++ x :: (l.eraseIdx i).drop i = l.set i x := by
  rw [List.eraseIdx_eq_take_drop_succ, List.set_eq_take_append_cons_drop, if_pos hi]
  have h1 : (l.take i).length = i := by simp; omega
  rw [List.take_left' h1, List.drop_left' h1]

set_option maxHeartbeats 1000000 in
set_option maxRecDepth 100000 in
theorem sbits_left1 (base : Nat) (A : Option Addr) (n c : Nat) (l : List Int) (s : StepD) (LA : Option Addr) (lc : Nat) (w : World) (h : w.ownsRow base 3 1 (.slice A n c) n (ints l)) (_hB : base ≤ w.heap.size) (_hn : n ≤ 10000) (hw : s.what = 1) (hbad : ¬ ((0 ≤ s.index ∧ s.index < l.length) ∧ (s.bit = 0 ∨ s.bit = 1))) :
    Calls Try.prog 19 #[.slice A n c, .agg (s.cells (.slice LA s.list.length lc))] w (SbOut base (.slice A n c) (specB l s) w) := by
  have hln : l.length = n := by have := h.1; simpa using this
  have hq : specB l s = (l, zeroAns, false) := by
    unfold specB
    simp [hw, hbad]
    try omega
  have H := hide h
  have HQ := hide hq
  have hst := start34 w (s.cells (.slice LA s.list.length lc)) #[.int .i64 0, .bool false, .slice none 0 0, .bool false]
  have HST := hide hst
  have HLN := hide hln
  have HBAD := hide hbad
  clear hbad
  clear h hq hst hln
  unfold StepD.cells at *
  rw [hw] at HST ⊢
  obtain ⟨p, hp⟩ : ∃ p, decide (0 ≤ s.index) = p := ⟨_, rfl⟩
  obtain ⟨q, hq⟩ : ∃ q, decide (s.index < (n : Int)) = q := ⟨_, rfl⟩
  obtain ⟨b0, hb0⟩ : ∃ b, (s.bit == 0) = b := ⟨_, rfl⟩
  obtain ⟨b1, hb1⟩ : ∃ b, (s.bit == 1) = b := ⟨_, rfl⟩
  have hno : (p = false ∨ q = false ∨ (b0 = false ∧ b1 = false)) := by
    by_cases h1 : p = false
    · exact Or.inl h1
    · by_cases h2 : q = false
      · exact Or.inr (Or.inl h2)
      · right; right
        have h3 : 0 ≤ s.index := by rw [Bool.not_eq_false] at h1; rw [h1] at hp; exact of_decide_eq_true hp
        have h4 : s.index < l.length := by rw [Bool.not_eq_false] at h2; rw [h2] at hq; have := of_decide_eq_true hq; have := HLN.out; omega
        constructor
        · rw [← hb0, beq_eq_false_iff_ne]; exact fun h => HBAD.out ⟨⟨h3, h4⟩, Or.inl h⟩
        · rw [← hb1, beq_eq_false_iff_ne]; exact fun h => HBAD.out ⟨⟨h3, h4⟩, Or.inr h⟩
  cases p <;> cases q <;> cases b0 <;> cases b1
  all_goals try (exfalso; revert hno; decide)
  all_goals
    clear hno
    try have hp2 : 0 ≤ s.index := of_decide_eq_true hp
    try have hq2 : s.index < (n : Int) := of_decide_eq_true hq
    go_enter Try.func19, Try.ntmps19
    go_wp2
    refine bodyPost_ret (v := .tuple #[.slice A n c, .agg #[.int .i64 0, .bool false, .slice none 0 0, .bool false], .bool false]) ?_ rfl ?_
    · simp [results, Try.f19, go_sem]
    · exact sb_same (an := zeroAns) (b := false) H.out HST.out.1 (Chg.refl _ _) HQ.out HLN.out

set_option maxHeartbeats 1000000 in
set_option maxRecDepth 100000 in
theorem sbits_left2 (base : Nat) (A : Option Addr) (n c : Nat) (l : List Int) (s : StepD) (LA : Option Addr) (lc : Nat) (w : World) (h : w.ownsRow base 3 1 (.slice A n c) n (ints l)) (_hB : base ≤ w.heap.size) (_hn : n ≤ 10000) (hw : s.what = 2) (hbad : ¬ ((0 ≤ s.index ∧ s.index < l.length) ∧ (s.bit = 0 ∨ s.bit = 1))) :
    Calls Try.prog 19 #[.slice A n c, .agg (s.cells (.slice LA s.list.length lc))] w (SbOut base (.slice A n c) (specB l s) w) := by
  have hln : l.length = n := by have := h.1; simpa using this
  have hq : specB l s = (l, zeroAns, false) := by
    unfold specB
    simp [hw, hbad]
    try omega
  have H := hide h
  have HQ := hide hq
  have hst := start34 w (s.cells (.slice LA s.list.length lc)) #[.int .i64 0, .bool false, .slice none 0 0, .bool false]
  have HST := hide hst
  have HLN := hide hln
  have HBAD := hide hbad
  clear hbad
  clear h hq hst hln
  unfold StepD.cells at *
  rw [hw] at HST ⊢
  obtain ⟨p, hp⟩ : ∃ p, decide (0 ≤ s.index) = p := ⟨_, rfl⟩
  obtain ⟨q, hq⟩ : ∃ q, decide (s.index < (n : Int)) = q := ⟨_, rfl⟩
  obtain ⟨b0, hb0⟩ : ∃ b, (s.bit == 0) = b := ⟨_, rfl⟩
  obtain ⟨b1, hb1⟩ : ∃ b, (s.bit == 1) = b := ⟨_, rfl⟩
  have hno : (p = false ∨ q = false ∨ (b0 = false ∧ b1 = false)) := by
    by_cases h1 : p = false
    · exact Or.inl h1
    · by_cases h2 : q = false
      · exact Or.inr (Or.inl h2)
      · right; right
        have h3 : 0 ≤ s.index := by rw [Bool.not_eq_false] at h1; rw [h1] at hp; exact of_decide_eq_true hp
        have h4 : s.index < l.length := by rw [Bool.not_eq_false] at h2; rw [h2] at hq; have := of_decide_eq_true hq; have := HLN.out; omega
        constructor
        · rw [← hb0, beq_eq_false_iff_ne]; exact fun h => HBAD.out ⟨⟨h3, h4⟩, Or.inl h⟩
        · rw [← hb1, beq_eq_false_iff_ne]; exact fun h => HBAD.out ⟨⟨h3, h4⟩, Or.inr h⟩
  cases p <;> cases q <;> cases b0 <;> cases b1
  all_goals try (exfalso; revert hno; decide)
  all_goals
    clear hno
    try have hp2 : 0 ≤ s.index := of_decide_eq_true hp
    try have hq2 : s.index < (n : Int) := of_decide_eq_true hq
    go_enter Try.func19, Try.ntmps19
    go_wp2
    refine bodyPost_ret (v := .tuple #[.slice A n c, .agg #[.int .i64 0, .bool false, .slice none 0 0, .bool false], .bool false]) ?_ rfl ?_
    · simp [results, Try.f19, go_sem]
    · exact sb_same (an := zeroAns) (b := false) H.out HST.out.1 (Chg.refl _ _) HQ.out HLN.out

set_option maxHeartbeats 1000000 in
set_option maxRecDepth 100000 in
theorem sbits_left3 (base : Nat) (A : Option Addr) (n c : Nat) (l : List Int) (s : StepD) (LA : Option Addr) (lc : Nat) (w : World) (h : w.ownsRow base 3 1 (.slice A n c) n (ints l)) (_hB : base ≤ w.heap.size) (_hn : n ≤ 10000) (hw : s.what = 3) (hbad : ¬ (0 ≤ s.index ∧ s.index < l.length)) :
    Calls Try.prog 19 #[.slice A n c, .agg (s.cells (.slice LA s.list.length lc))] w (SbOut base (.slice A n c) (specB l s) w) := by
  have hln : l.length = n := by have := h.1; simpa using this
  have hq : specB l s = (l, zeroAns, false) := by
    unfold specB
    simp [hw, hbad]
    try omega
  have H := hide h
  have HQ := hide hq
  have hst := start34 w (s.cells (.slice LA s.list.length lc)) #[.int .i64 0, .bool false, .slice none 0 0, .bool false]
  have HST := hide hst
  have HLN := hide hln
  have HBAD := hide hbad
  clear hbad
  clear h hq hst hln
  unfold StepD.cells at *
  rw [hw] at HST ⊢
  obtain ⟨p, hp⟩ : ∃ p, decide (0 ≤ s.index) = p := ⟨_, rfl⟩
  obtain ⟨q, hq⟩ : ∃ q, decide (s.index < (n : Int)) = q := ⟨_, rfl⟩
  obtain ⟨b0, hb0⟩ : ∃ b, (s.bit == 0) = b := ⟨_, rfl⟩
  obtain ⟨b1, hb1⟩ : ∃ b, (s.bit == 1) = b := ⟨_, rfl⟩
  have hno : (p = false ∨ q = false) := by
    by_cases h1 : p = false
    · exact Or.inl h1
    · by_cases h2 : q = false
      · exact Or.inr h2
      · exfalso
        have h3 : 0 ≤ s.index := by rw [Bool.not_eq_false] at h1; rw [h1] at hp; exact of_decide_eq_true hp
        have h4 : s.index < l.length := by rw [Bool.not_eq_false] at h2; rw [h2] at hq; have := of_decide_eq_true hq; have := HLN.out; omega
        exact HBAD.out ⟨h3, h4⟩
  cases p <;> cases q <;> cases b0 <;> cases b1
  all_goals try (exfalso; revert hno; decide)
  all_goals
    clear hno
    try have hp2 : 0 ≤ s.index := of_decide_eq_true hp
    try have hq2 : s.index < (n : Int) := of_decide_eq_true hq
    go_enter Try.func19, Try.ntmps19
    go_wp2
    refine bodyPost_ret (v := .tuple #[.slice A n c, .agg #[.int .i64 0, .bool false, .slice none 0 0, .bool false], .bool false]) ?_ rfl ?_
    · simp [results, Try.f19, go_sem]
    · exact sb_same (an := zeroAns) (b := false) H.out HST.out.1 (Chg.refl _ _) HQ.out HLN.out

set_option maxHeartbeats 1000000 in
set_option maxRecDepth 100000 in
theorem sbits_left4 (base : Nat) (A : Option Addr) (n c : Nat) (l : List Int) (s : StepD) (LA : Option Addr) (lc : Nat) (w : World) (h : w.ownsRow base 3 1 (.slice A n c) n (ints l)) (_hB : base ≤ w.heap.size) (_hn : n ≤ 10000) (hw : s.what = 4) (hbad : ¬ (0 ≤ s.index ∧ s.index < l.length)) :
    Calls Try.prog 19 #[.slice A n c, .agg (s.cells (.slice LA s.list.length lc))] w (SbOut base (.slice A n c) (specB l s) w) := by
  have hln : l.length = n := by have := h.1; simpa using this
  have hq : specB l s = (l, zeroAns, false) := by
    unfold specB
    simp [hw, hbad]
    try omega
  have H := hide h
  have HQ := hide hq
  have hst := start34 w (s.cells (.slice LA s.list.length lc)) #[.int .i64 0, .bool false, .slice none 0 0, .bool false]
  have HST := hide hst
  have HLN := hide hln
  have HBAD := hide hbad
  clear hbad
  clear h hq hst hln
  unfold StepD.cells at *
  rw [hw] at HST ⊢
  obtain ⟨p, hp⟩ : ∃ p, decide (0 ≤ s.index) = p := ⟨_, rfl⟩
  obtain ⟨q, hq⟩ : ∃ q, decide (s.index < (n : Int)) = q := ⟨_, rfl⟩
  obtain ⟨b0, hb0⟩ : ∃ b, (s.bit == 0) = b := ⟨_, rfl⟩
  obtain ⟨b1, hb1⟩ : ∃ b, (s.bit == 1) = b := ⟨_, rfl⟩
  have hno : (p = false ∨ q = false) := by
    by_cases h1 : p = false
    · exact Or.inl h1
    · by_cases h2 : q = false
      · exact Or.inr h2
      · exfalso
        have h3 : 0 ≤ s.index := by rw [Bool.not_eq_false] at h1; rw [h1] at hp; exact of_decide_eq_true hp
        have h4 : s.index < l.length := by rw [Bool.not_eq_false] at h2; rw [h2] at hq; have := of_decide_eq_true hq; have := HLN.out; omega
        exact HBAD.out ⟨h3, h4⟩
  cases p <;> cases q <;> cases b0 <;> cases b1
  all_goals try (exfalso; revert hno; decide)
  all_goals
    clear hno
    try have hp2 : 0 ≤ s.index := of_decide_eq_true hp
    try have hq2 : s.index < (n : Int) := of_decide_eq_true hq
    go_enter Try.func19, Try.ntmps19
    go_wp2
    refine bodyPost_ret (v := .tuple #[.slice A n c, .agg #[.int .i64 0, .bool false, .slice none 0 0, .bool false], .bool false]) ?_ rfl ?_
    · simp [results, Try.f19, go_sem]
    · exact sb_same (an := zeroAns) (b := false) H.out HST.out.1 (Chg.refl _ _) HQ.out HLN.out

set_option maxHeartbeats 1000000 in
set_option maxRecDepth 100000 in
theorem sbits_left (base : Nat) (A : Option Addr) (n c : Nat) (l : List Int) (s : StepD) (LA : Option Addr) (lc : Nat) (w : World) (h : w.ownsRow base 3 1 (.slice A n c) n (ints l)) (_hB : base ≤ w.heap.size) (_hn : n ≤ 10000) (h0 : s.what ≠ 0) (h1 : s.what ≠ 1) (h2 : s.what ≠ 2) (h3 : s.what ≠ 3) (h4 : s.what ≠ 4) (h5 : s.what ≠ 5) :
    Calls Try.prog 19 #[.slice A n c, .agg (s.cells (.slice LA s.list.length lc))] w (SbOut base (.slice A n c) (specB l s) w) := by
  have hln : l.length = n := by have := h.1; simpa using this
  have hq : specB l s = (l, zeroAns, false) := by
    unfold specB
    simp [h0, h1, h2, h3, h4, h5]
    try omega
  have H := hide h
  have HQ := hide hq
  have hst := start34 w (s.cells (.slice LA s.list.length lc)) #[.int .i64 0, .bool false, .slice none 0 0, .bool false]
  have HST := hide hst
  have HLN := hide hln
  have e0 : (s.what == 0) = false := beq_eq_false_iff_ne.2 h0
  have e1 : (s.what == 1) = false := beq_eq_false_iff_ne.2 h1
  have e2 : (s.what == 2) = false := beq_eq_false_iff_ne.2 h2
  have e3 : (s.what == 3) = false := beq_eq_false_iff_ne.2 h3
  have e4 : (s.what == 4) = false := beq_eq_false_iff_ne.2 h4
  have e5 : (s.what == 5) = false := beq_eq_false_iff_ne.2 h5
  clear h0 h1 h2 h3 h4 h5
  clear h hq hst
  unfold StepD.cells at *
  obtain ⟨p, hp⟩ : ∃ p, decide (0 ≤ s.index) = p := ⟨_, rfl⟩
  obtain ⟨q, hq⟩ : ∃ q, decide (s.index < (n : Int)) = q := ⟨_, rfl⟩
  obtain ⟨b0, hb0⟩ : ∃ b, (s.bit == 0) = b := ⟨_, rfl⟩
  obtain ⟨b1, hb1⟩ : ∃ b, (s.bit == 1) = b := ⟨_, rfl⟩
  cases p <;> cases q <;> cases b0 <;> cases b1
  all_goals
    try have hp2 : 0 ≤ s.index := of_decide_eq_true hp
    try have hq2 : s.index < (n : Int) := of_decide_eq_true hq
    go_enter Try.func19, Try.ntmps19
    go_wp2
    refine bodyPost_ret (v := .tuple #[.slice A n c, .agg #[.int .i64 0, .bool false, .slice none 0 0, .bool false], .bool false]) ?_ rfl ?_
    · simp [results, Try.f19, go_sem]
    · exact sb_same (an := zeroAns) (b := false) H.out HST.out.1 (Chg.refl _ _) HQ.out HLN.out

end Go.Proofs.Ytammpllfmbmdmaa
