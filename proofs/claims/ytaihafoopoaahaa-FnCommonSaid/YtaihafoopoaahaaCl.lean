/- The walks of slices.Clone, ZZSuffixes, impl.Suffixes and of the law FnSuffixes. No condition but sizes. -/
import Derived.Test.YtaihafoopoaahaaQs
import Derived.Test.YtaihafoopoaahaaTx
import Derived.Deep.RegionHeld3
namespace Go.Proofs.Ytaihafoopoaahaa
open Go.RowKit
open Go.Op (bytesLess)
attribute [local go_sem] S_size S_toList E_toList S_extract

abbrev Gr (w w' : World) : Prop := Chg (fun _ => False) w w'
theorem info5 : (Try.prog.info? 5).map (fun i => (i.zero, i.size, i.bytes)) = some (some (.int .u8 0), 1, 1) := by kernel_rfl
theorem bts_one {D : Bs} : ∀ u ∈ bts D, u.oneCell' = true := fun u hu => by
  obtain ⟨x, _, rfl⟩ := List.mem_map.1 hu
  rfl
theorem Reads.lower {w : World} {K : Nat → Prop} {size n : Nat} {A : Option Addr} {xs : List Value} (h : Reads w K size A n xs) : Reads w (fun i => i < w.heap.size) size A n xs := h.more (fun _ hi _ => hi)

theorem run_append0 (w : World) (base : Nat) (t ty e : TypeId) (i : TypeInfo) (z : Value) (size bytes : Nat) (ht : Try.prog.underlying t = some (.slice e)) (hi : Try.prog.info? e = some i) (hz : i.zero = some z) (hs : i.size = size) (hby : i.bytes = bytes) (hzs : z.cells.size = size) (_hsp : 0 < size)
    (g : Nat) (hg : Blk w g e #[]) (hb : base ≤ g) (A : Option Addr) (m c : Nat) (xs : List Value) (K : Nat → Prop) (hr : Reads w K size A m xs) (h1 : ∀ u ∈ xs, u.oneCell' = true) (hnil : A = none → c = 0) (hm : m ≤ maxLen) (hbytes : m * bytes ≤ 140737488355328) :
    ∃ v' w', (Builtin.append_ #[t, t] ty #[.slice (some ⟨g, 0, none⟩) 0 0, .slice A m c]).run Try.prog w = .ok v' w' ∧ w'.ownsRow base e size v' m xs ∧ Gr w w' ∧ (v'.ownBlock = some g ∨ v'.ownBlock = some w.heap.size) := by
  have hm2 := hm
  unfold maxLen at hm2
  have hown : w.ownsRow base e size (.slice (some ⟨g, 0, none⟩) 0 0) 0 [] := ⟨by simp, .inr ⟨g, 0, #[], rfl, hb, hg, Nat.le_refl _, by simp [maxLen], by simp, by simp⟩⟩
  cases A with
  | none =>
    have hm0 : m = 0 := by
      rcases Nat.eq_zero_or_pos m with h | h
      · exact h
      · obtain ⟨_, e, _⟩ := hr.2 h; cases e
    subst hm0
    have hx : xs = [] := List.eq_nil_of_length_eq_zero (by have := hr.1; simpa using this)
    subst hx
    rw [hnil rfl]
    exact ⟨_, w, run_append_owned_none (P := Try.prog) (w := w) base t ty e i size ht hi _ 0 [] hown, hown, Chg.refl _ _, Or.inl rfl⟩
  | some ad =>
    have hnews : ∀ j u, xs[j]? = some u → w.cell? (ad.add j) = some u := by
      intro j u hj
      have hm : 0 < m := by
        have h1 := (List.getElem?_eq_some_iff.1 hj).1
        have h2 := hr.1
        rcases Nat.eq_zero_or_pos m with h | h
        · rw [h] at h2; simp at h2; subst h2; cases hj
        · exact h
      obtain ⟨ad', e, _, _, hc⟩ := hr.2 hm
      injection e with e
      subst e
      exact hc j u hj
    rcases Nat.eq_zero_or_pos m with h0 | h0
    · subst h0
      have hx : xs = [] := List.eq_nil_of_length_eq_zero (by have := hr.1; simpa using this)
      subst hx
      have hrun := run_append_room (P := Try.prog) (w := w) t ty e i ht hi g 0 0 #[] hg ad 0 c [] (by simp) (fun j u hj => by cases hj) (fun u hu => by cases hu) (by omega) (by simp)
      simp only [Nat.zero_mul, List.take_zero, List.length_nil, Nat.add_zero, List.drop_zero, List.append_nil] at hrun
      have hblk : Blk (w.setRow g #[]) g e #[] := setRow_heap w g #[] #[] e (0, 0) hg
      refine ⟨_, _, hrun, ⟨by simp, .inr ⟨g, 0, #[], rfl, hb, hblk, Nat.le_refl _, by simp [maxLen], by simp, by simp⟩⟩, ⟨rfl, rfl, rfl, by simp [World.setRow], fun k _ _ => ?_⟩, Or.inl rfl⟩
      by_cases hk : k = g
      · subst hk; exact hblk.trans hg.symm
      · exact setRow_other w g k _ hk
    · have hrun := run_append_grow (P := Try.prog) (w := w) t ty e i z ht hi hz ⟨g, 0, none⟩ 0 0 [] (by simp) (fun j u hj => by cases hj) ad m c xs (by rw [hs]; exact hr.1) hnews (by omega) (by omega) (growslice_fits (by omega) (by rw [hby, Nat.zero_add]; exact hbytes))
      simp only [Nat.zero_add, Array.empty_append] at hrun
      have hge := grownCap_ge w m 0 e
      have hl := hr.1
      refine ⟨_, _, hrun, ⟨hl, .inr ⟨w.heap.size, _, _, rfl, Nat.le_trans hb (Nat.le_of_lt hg.lt), heap_alloc_new w.drew _, hge, grownCap_le_maxLen w m 0 e hm, ?_, ?_⟩⟩, ⟨rfl, rfl, rfl, by simp, fun k hk _ => Below.heap_alloc w.drew _ k hk⟩, Or.inr rfl⟩
      · have h2 : (grownCap w m 0 e - m) * size = grownCap w m 0 e * size - m * size := Nat.sub_mul _ _ _
        have h3 : m * size ≤ grownCap w m 0 e * size := Nat.mul_le_mul_right _ hge
        have h4 : (xs.toArray ++ Builtin.zeroCells z.cells (grownCap w m 0 e - m)).size = xs.length + (grownCap w m 0 e - m) * size := by simp [size_zeroCells, hzs]
        rw [h4, h2, hl]; omega
      · have e1 : (xs.toArray ++ Builtin.zeroCells z.cells (grownCap w m 0 e - m)).toList = xs ++ (Builtin.zeroCells z.cells (grownCap w m 0 e - m)).toList := by simp
        rw [e1]
        exact List.take_left' hl

/-- 'append(T{}, xs...)' in a plain region. -/
theorem wpList_append0 {w : World} {ops : Array Oper} {rest : List Oper} {o : Oper} {a : Act} {Q : Exit → Act → World → Prop} (hgd : o.guard = none) (s x : Operand) (t : TypeId)
    (ho : o.op = .call { callee := .builtin .append, args := #[s, x], argTypes := #[t, t] })
    (base : Nat) (e : TypeId) (i : TypeInfo) (z : Value) (size bytes : Nat) (ht : Try.prog.underlying t = some (.slice e)) (hi : Try.prog.info? e = some i) (hz : i.zero = some z) (hs : i.size = size) (hby : i.bytes = bytes) (hzs : z.cells.size = size) (hsp : 0 < size)
    (g : Nat) (hsv : a.eval s = .slice (some ⟨g, 0, none⟩) 0 0) (hg : Blk w g e #[]) (hb : base ≤ g) (A : Option Addr) (m c : Nat) (xs : List Value) (Kr : Nat → Prop) (hxv : a.eval x = .slice A m c) (hr : Reads w Kr size A m xs) (h1 : ∀ u ∈ xs, u.oneCell' = true) (hnil : A = none → c = 0) (hm : m ≤ maxLen) (hbytes : m * bytes ≤ 140737488355328)
    (h : ∀ v' w', w'.ownsRow base e size v' m xs → Gr w w' → wpList Try.prog ops Q rest (a.put o.dst v') w') : wpList Try.prog ops Q (o :: rest) a w := by
  refine wpList_plain hgd fun K hK => ?_
  obtain ⟨v', w', h2, h3, h4, _⟩ := run_append0 w base t o.type e i z size bytes ht hi hz hs hby hzs hsp g hg hb A m c xs Kr hr h1 hnil hm hbytes
  unfold Oper.wp execOp
  simp only [ho, resolve, invoke, builtin, Sem.run_bind, Sem.run_pure, Result.andThen_ok, List.map_toArray, List.map_cons, List.map_nil, hsv, hxv, h2]
  exact hK _ _ (h v' w' h3 h4)

set_option maxHeartbeats 1000000 in
set_option maxRecDepth 100000 in
theorem clone_any (K : Nat → Prop) (A : Option Addr) (n c : Nat) (D : Bs) (w : World) (hr : Reads w K 1 A n (bts D)) (hnil : A = none → n = 0 ∧ c = 0) (hn : n ≤ 549755813888) :
    Calls Try.prog 12 #[.slice A n c] w fun e w' => ∃ v', e = .returned v' ∧ w'.ownsRow w.heap.size 5 1 v' n (bts D) ∧ Gr w w' := by
  cases A with
  | none =>
    obtain ⟨rfl, rfl⟩ := hnil rfl
    have hl : D = [] := List.eq_nil_of_length_eq_zero (by have := hr.1; simpa using this)
    subst hl
    clear hr hnil
    have hnl : ∀ W : World, (binOp .eql 22 (.slice none 0 0) (.slice none 0 0)).run Try.prog W = .ok (.bool true) W := fun W => by
      rw [Lib.run_eql_slice_nil (h := Try.underlying22)]; rfl
    go_enter Try.func12, Try.ntmps12
    go_wp2
    go_ret
    exact ⟨_, rfl, World.ownsRow_nil _ _ _ _, Chg.refl _ _⟩
  | some ad =>
    have hnl : ∀ W : World, (binOp .eql 22 (.slice (some ad) n c) (.slice none 0 0)).run Try.prog W = .ok (.bool false) W := fun W => by
      rw [Lib.run_eql_slice_nil (h := Try.underlying22)]; rfl
    obtain ⟨i0, hi5, hz0, hz1, hz2⟩ := info_parts info5
    have HB0 : Hid (Gr w (w.alloc (.cells #[] 5))) := (Chg.refl _ w).alloc _
    have HR : Hid (Reads (w.alloc (.cells #[] 5)) K 1 (some ad) n (bts D)) := hr.below HB0.out.toBelow
    clear hr hnil
    go_enter Try.func12, Try.ntmps12
    go_wp2_with
      (at_builtin
       go_must (refine wpList_append0 rfl _ _ 22 rfl w.heap.size 5 i0 (.int .u8 0) 1 1 Try.underlying22 hi5 hz0 hz1 hz2 rfl (by decide) w.heap.size rfl (Blk.new _ _ _) (Nat.le_refl _) (some ad) n c (bts D) K rfl HR.out bts_one (fun h => by cases h) (by unfold maxLen; omega) (by omega) ?_)
       intro v1 w1 hO hC
       have HO := hide hO
       have HC := hide hC
       clear hO hC)
    obtain ⟨A', c', rfl, _⟩ := own_reads HO.out
    go_ret
    exact ⟨_, rfl, HO.out, HB0.out.trans HC.out (fun _ _ h => h)⟩


set_option linter.unusedVariables false in
set_option maxHeartbeats 1000000 in
set_option maxRecDepth 100000 in
theorem zz_any (s : Bs) (A : Option Addr) (c : Nat) (w : World) (h : Reads w (fun i => i < w.heap.size) 1 A s.length (bts s)) (hn : s.length ≤ 100000) :
    Calls Try.prog 11 #[.slice A s.length c] w fun e w' => ∃ (p : Nat → Nat) (g : Nat), e = .returned (.slice (some ⟨g, 0, none⟩) s.length s.length) ∧ Below w.heap.size w w' ∧ Blk w' g 3 (arr s.length (fun k => (p k : Int))) ∧ SufArr s s.length p := by
  have HQ := hide (qsuf_any s A c w h hn)
  clear h
  go_enter Try.func11, Try.ntmps11
  go_wp2_with fail
  refine HQ.out.mono ?_
  rintro _ w1 ⟨p, rfl, h1, h2, h3⟩
  have HF := hide (And.intro h1 (And.intro h2 h3))
  clear h1 h2 h3 HQ
  go_wp2
  go_ret
  exact ⟨p, _, rfl, HF.out⟩

set_option linter.unusedVariables false in
set_option maxHeartbeats 1000000 in
set_option maxRecDepth 100000 in
theorem suffixes_any (s : Bs) (K : Nat → Prop) (A : Option Addr) (c : Nat) (w : World) (h : Reads w K 1 A s.length (bts s)) (hnil : A = none → s.length = 0 ∧ c = 0) (hn : s.length ≤ 100000) :
    Calls Try.prog 5 #[.slice A s.length c] w fun e w' => ∃ (p : Nat → Nat) (g : Nat), e = .returned (.slice (some ⟨g, 0, none⟩) s.length s.length) ∧ Below w.heap.size w w' ∧ Blk w' g 3 (arr s.length (fun k => (p k : Int))) ∧ SufArr s s.length p := by
  have HC := hide (clone_any K A s.length c s w h hnil (by omega))
  clear h hnil
  go_enter Try.func5, Try.ntmps5
  go_wp2_with fail
  refine HC.out.mono ?_
  rintro _ w1 ⟨v1, rfl, ho, hg⟩
  obtain ⟨A1, c1, rfl, hr⟩ := own_reads ho
  have hsz : w.heap.size ≤ w1.heap.size := hg.size
  have HZ := hide (zz_any s A1 c1 w1 (hr.lower) hn)
  have HG := hide hg
  clear ho hr hg HC
  go_wp2_with fail
  refine HZ.out.mono ?_
  rintro _ w2 ⟨p, g, rfl, h1, h2, h3⟩
  have HF : Hid (Below w.heap.size w w2 ∧ Blk w2 g 3 (arr s.length (fun k => (p k : Int))) ∧ SufArr s s.length p) := hide ⟨HG.out.toBelow.trans (h1.mono hsz), h2, h3⟩
  clear h1 h2 h3 HZ
  go_wp2
  go_ret
  exact ⟨p, g, rfl, HF.out⟩

set_option linter.unusedSimpArgs false in
set_option linter.unusedVariables false in
set_option maxHeartbeats 2000000 in
set_option maxRecDepth 100000 in
theorem fnSuffixes_any (s : Bs) (K : Nat → Prop) (A : Option Addr) (c : Nat) (w : World) (h : Reads w K 1 A s.length (bts s)) (hnil : A = none → s.length = 0 ∧ c = 0) :
    Calls Try.prog 3 #[.slice A s.length c] w fun e w' => e = .returned (.bool true) ∧ Below w.heap.size w w' := by
  have HS1 : Hid (Calls Try.prog 5 #[.slice (some ⟨w.heap.size, 0, none⟩) 1 1] (w.alloc (.cells #[.int .u8 1] 5)) fun e w' => ∃ g : Nat, e = .returned (.slice (some ⟨g, 0, none⟩) 1 1) ∧ Below w.heap.size w w') := by
    refine hide ((suffixes_any [1] (fun _ => True) (some ⟨w.heap.size, 0, none⟩) 1 (w.alloc (.cells #[.int .u8 1] 5)) ⟨rfl, fun _ => ⟨_, rfl, trivial, by simp, fun j u hu => by
      match j, hu with
      | 0, hu =>
        simp at hu; subst hu
        rw [add_plain, (Blk.new w 5 #[.int .u8 1]).cell]; rfl⟩⟩ (fun h => by cases h) (by simp)).mono ?_)
    rintro e w' ⟨p, g, he, hb, _⟩
    exact ⟨g, he, ((Below.refl _ w).alloc (Nat.le_refl _) _).trans (hb.mono (by simp))⟩
  by_cases hn : s.length = 0 ∨ 300 < s.length
  · clear h hnil
    have hn0 := hn
    by_cases hbig : 2147483647 < s.length
    · clear HS1 hn hn0
      go_enter Try.func3, Try.ntmps3
      go_wp2
      go_ret
      exact ⟨rfl, Below.refl _ _⟩
    · by_cases h0 : s.length = 0
      · generalize s.length = n at *
        subst h0
        clear hn hn0 hbig
        go_enter Try.func3, Try.ntmps3
        go_wp2_with fail
        refine HS1.out.mono ?_
        rintro _ w5 ⟨g, rfl, hb⟩
        have HB := hide hb
        clear hb HS1
        go_wp2
        go_ret
        exact ⟨rfl, HB.out⟩
      · have h3 : 300 < s.length := by omega
        have he0 : ((s.length : Int) == 0) = false := by rw [beq_eq_false_iff_ne]; omega
        generalize s.length = n at *
        clear hn hn0
        go_enter Try.func3, Try.ntmps3
        go_wp2_with fail
        refine HS1.out.mono ?_
        rintro _ w5 ⟨g, rfl, hb⟩
        have HB := hide hb
        clear hb HS1
        go_wp2
        go_ret
        exact ⟨rfl, HB.out⟩
  · have h1 : s.length ≠ 0 := by omega
    have h3 : s.length ≤ 300 := by omega
    clear HS1 hn
    have HS := hide (suffixes_any s K A c w.drew (h : Reads w.drew K 1 A s.length (bts s)) hnil (by omega))
    have HR : Hid (Reads w.drew K 1 A s.length (bts s)) := hide h
    have HNIL := hide hnil
    have hc0 := conv22 (w := w.drew) h hnil
    have he0 : ((s.length : Int) == 0) = false := by rw [beq_eq_false_iff_ne]; omega
    have HL : Hid (∃ n, n = s.length) := hide ⟨_, rfl⟩
    clear h hnil
    go_enter Try.func3, Try.ntmps3
    go_wp2
    go_region_with (first
      | (go_at_call 5
         refine HS.out.mono ?_
         rintro _ w5 ⟨p, g, rfl, q1, q2, q3⟩
         have HF5 := hide (And.intro q1 (And.intro q2 q3))
         have hc5 := conv22 (w := w5) (HR.out.below q1) HNIL.out
         clear q1 q2 q3)
      | (go_at_call 6
         refine (sorted_any s s.length p g s.length w5 rfl HF5.out.2.1 HF5.out.2.2.pm HF5.out.2.2.ord (by omega)).mono ?_
         rintro _ w6 ⟨rfl, q, rfl⟩))
    all_goals go_wp2
    all_goals go_ret
    all_goals exact ⟨rfl, below_drewN ((Below.refl w.heap.size w).drew.trans HF5.out.1) _⟩
end Go.Proofs.Ytaihafoopoaahaa
