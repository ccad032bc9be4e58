/- 'append(out, l...)' of ints onto a row of the call's own, as a step of a region that draws its order; the walks of spec.without, spec.with, spec.popped. -/
import Derived.Test.YtammpllfmbmdmaaQd
import Derived.Deep.RegionLaw
import Derived.Deep.RegionHeld3
namespace Go.Proofs.Ytammpllfmbmdmaa
open Go.RowKit

theorem info3 : (Try.prog.info? 3).map (fun i => (i.zero, i.size, i.bytes)) = some (some (.int .i64 0), 1, 8) := by kernel_rfl

set_option maxRecDepth 100000 in
theorem run_appendR (w : World) (base ty : Nat) (v : Value) (n : Nat) (xs : List Value) (hown : w.ownsRow base 3 1 v n xs) (A : Option Addr) (m c : Nat) (ys : List Int) (K : Nat → Prop) (hr : Reads w K 1 A m (ints ys)) (hnil : A = none → c = 0) (hb : n + m ≤ 1099511627776) (hbase : base ≤ w.heap.size) :
    ∃ v' w', (Builtin.append_ #[27, 27] ty #[v, .slice A m c]).run Try.prog w = .ok v' w' ∧ w'.ownsRow base 3 1 v' (n + m) (xs ++ ints ys) ∧ w.grownBy w' v.ownBlock ∧ (v'.ownBlock = v.ownBlock ∨ v'.ownBlock = some w.heap.size) := by
  obtain ⟨i0, hi, hz0, hz1, hz2⟩ := info_parts info3
  cases A with
  | none =>
    have hm : m = 0 := by
      rcases Nat.eq_zero_or_pos m with h | h
      · exact h
      · obtain ⟨_, e, _⟩ := hr.2 h; cases e
    subst hm
    have hy : ys = [] := List.eq_nil_of_length_eq_zero (by have := hr.1; simpa using this)
    subst hy
    rw [hnil rfl]
    refine ⟨v, w, run_append_owned_none (P := Try.prog) (w := w) base 27 ty 3 i0 1 Try.underlying27 hi v n xs hown, by simpa using hown, ⟨rfl, rfl, rfl, Nat.le_refl _, fun _ _ _ => rfl⟩, Or.inl rfl⟩
  | some ad =>
    obtain ⟨v', w', h1, h2, h3, _, h5⟩ := run_append_own_at (P := Try.prog) w base 27 ty 3 i0 (.int .i64 0) 1 8 Try.underlying27 hi hz0 hz1 hz2 rfl (by decide) v n xs hown ad m c (ints ys) (by have := hr.1; simpa using this) (fun j u hj => by
      have hm : 0 < m := by
        have h1 := (List.getElem?_eq_some_iff.1 hj).1
        have h2 := hr.1
        omega
      obtain ⟨ad', e, _, _, hc⟩ := hr.2 hm
      injection e with e
      subst e
      exact hc j u hj) (fun u hu => by
      obtain ⟨x, _, rfl⟩ := List.mem_map.1 hu
      rfl) (by unfold maxLen; omega) (by omega) hbase
    exact ⟨v', w', h1, h2, h3, h5⟩

/-- .. as one step of a region that draws its order. -/
theorem step_appendR {w : World} {ops : Array Oper} {o : Oper} {a : Act} {K : Act → World → Prop} {Q : Exit → Act → World → Prop} {E : Prop} (hgd : o.guard = none) (s x : Operand)
    (ho : o.op = .call { callee := .builtin .append, args := #[s, x], argTypes := #[27, 27] })
    (base : Nat) (v : Value) (n : Nat) (xs : List Value) (hsv : a.eval s = v) (hown : w.ownsRow base 3 1 v n xs) (A : Option Addr) (m c : Nat) (ys : List Int) (Kr : Nat → Prop) (hxv : a.eval x = .slice A m c) (hr : Reads w Kr 1 A m (ints ys)) (hnil : A = none → c = 0) (hb : n + m ≤ 1099511627776) (hbase : base ≤ w.heap.size)
    (h : ∀ v' w', w'.ownsRow base 3 1 v' (n + m) (xs ++ ints ys) → Chg (fun g => v.ownBlock = some g) w w' → (v'.ownBlock = v.ownBlock ∨ v'.ownBlock = some w.heap.size) → K (a.put o.dst v') w') :
    if Region.wanted o (yielded ops a.tmps) = true then Oper.wp Try.prog o a w K Q else E := by
  have hw : Region.wanted o (yielded ops a.tmps) = true := by simp [Region.wanted, hgd]
  rw [if_pos hw]
  obtain ⟨v', w', h1, h2, h3, h4⟩ := run_appendR w base o.type v n xs hown A m c ys Kr hr hnil hb hbase
  unfold Oper.wp execOp
  simp only [ho, resolve, invoke, builtin, Sem.run_bind, Sem.run_pure, Result.andThen_ok, List.map_toArray, List.map_cons, List.map_nil, hsv, hxv, h1]
  exact h v' w' h2 (Chg.ofGrown (S := fun g => v.ownBlock = some g) h3 (fun g hg _ => hg)) h4

theorem Reads.take {w : World} {K : Nat → Prop} {A : Option Addr} {n j : Nat} {xs : List Int} (h : Reads w K 1 A n (ints xs)) (hj : j ≤ n) : Reads w K 1 A j (ints (xs.take j)) := by
  have hl : xs.length = n := by have := h.1; simpa using this
  refine ⟨by simp; omega, fun h0 => ?_⟩
  obtain ⟨ad, e, hk, hlt, hc⟩ := h.2 (by omega)
  refine ⟨ad, e, hk, hlt, fun i u hu => hc i u ?_⟩
  have hi : i < j := by
    have := (List.getElem?_eq_some_iff.1 hu).1
    simp at this; omega
  have h1 : (xs.take j)[i]? = xs[i]? := by rw [List.getElem?_take, if_pos hi]
  rw [List.getElem?_map, h1] at hu
  rw [List.getElem?_map]; exact hu

theorem Reads.drop {w : World} {K : Nat → Prop} {ad : Addr} {n j : Nat} {xs : List Int} (h : Reads w K 1 (some ad) n (ints xs)) (hj : j ≤ n) : Reads w K 1 (some (ad.add j)) (n - j) (ints (xs.drop j)) := by
  have hl : xs.length = n := by have := h.1; simpa using this
  refine ⟨by simp; omega, fun h0 => ?_⟩
  obtain ⟨ad', e, hk, hlt, hc⟩ := h.2 (by omega)
  injection e with e
  subst e
  refine ⟨ad.add j, rfl, by rw [block_of_add]; exact hk, by rw [block_of_add]; exact hlt, fun i u hu => ?_⟩
  rw [add_of_add]
  refine hc (j + i) u ?_
  rw [List.getElem?_map, List.getElem?_drop] at hu
  rw [List.getElem?_map]; exact hu

theorem Reads.dropS {w : World} {K : Nat → Prop} {ad : Addr} {n c j : Nat} {xs : List Int} (h : Reads w K 1 (some ad) n (ints xs)) (hj : j + 1 ≤ n) (hc : n ≤ c) : Reads w K 1 (if c = j + 1 then some ad else some ⟨ad.block, ad.off + (j + 1), none⟩) (n - (j + 1)) (ints (xs.drop (j + 1))) := by
  have e : ad.add (j + 1) = ⟨ad.block, ad.off + (j + 1), none⟩ := by unfold Addr.add; simp
  have h1 := h.drop hj
  rw [e] at h1
  split
  · have h0 : n - (j + 1) = 0 := by omega
    rw [h0] at h1 ⊢
    exact ⟨h1.1, fun h => absurd h (by omega)⟩
  · exact h1

theorem own_cap {w : World} {base : Nat} {e : TypeId} {n : Nat} {A : Option Addr} {c : Nat} {xs : List Value} (h : w.ownsRow base e 1 (.slice A n c) n xs) : n ≤ c ∧ c ≤ maxLen := by
  obtain ⟨_, h2⟩ := h
  rcases h2 with ⟨h3, h4⟩ | ⟨g, cap, cur, hv, _, _, h5, h6, _⟩
  · injection h3 with _ _ h3; subst h3; exact ⟨by omega, by simp [maxLen]⟩
  · injection hv with _ _ hv; subst hv; exact ⟨h5, h6⟩
theorem own_nil {w : World} {base : Nat} {e : TypeId} {n : Nat} {A : Option Addr} {c : Nat} {xs : List Value} (h : w.ownsRow base e 1 (.slice A n c) n xs) : A = none → c = 0 := by
  obtain ⟨_, h2⟩ := h
  rintro rfl
  rcases h2 with ⟨h3, h4⟩ | ⟨g, cap, cur, hv, _⟩
  · injection h3
  · cases hv

/-- Blocks of int rows. -/
def Row3 (w : World) (i : Nat) : Prop := ∃ cs, Blk w i 3 cs
theorem SliceIs.row {w w' : World} {S : Nat → Prop} {A : Option Addr} {n c : Nat} {xs : List Int} (h : SliceIs w (Row3 w) A n c xs) (hc : Chg S w w') (hS : ∀ i cs, Blk w i 3 cs → ¬ S i) : SliceIs w' (Row3 w') A n c xs :=
  (h.chg hc (fun i _ ⟨cs, hb⟩ => hS i cs hb)).more (fun i _ ⟨cs, hb⟩ => ⟨cs, hb.chg hc (hS i cs hb)⟩)
theorem SliceIs.rowBelow {w w' : World} {A : Option Addr} {n c : Nat} {xs : List Int} (h : SliceIs w (Row3 w) A n c xs) (hb : Below w.heap.size w w') : SliceIs w' (Row3 w') A n c xs := h.row (Chg.ofBelow hb (fun _ => False)) (fun _ _ _ => id)
theorem SliceIs.of_own {w : World} {base : Nat} {A : Option Addr} {n c : Nat} {xs : List Int} (h : w.ownsRow base 3 1 (.slice A n c) n (ints xs)) : SliceIs w (Row3 w) A n c xs := by
  have h1 := own_cap h
  obtain ⟨A', c', e, hr⟩ := own_reads h
  injection e with e1 _ e2
  subst e1; subst e2
  refine ⟨by have := hr.1; simpa using this, h1.1, h1.2, ⟨hr.1, fun hn => ?_⟩, own_nil h⟩
  obtain ⟨ad, rfl, _, hlt, hcs⟩ := hr.2 hn
  refine ⟨ad, rfl, ?_, hlt, hcs⟩
  rcases h.2 with ⟨h3, _⟩ | ⟨g, cap, cur, hv, _, hh, _⟩
  · injection h3 with h3; cases h3
  · injection hv with hv
    injection hv with hv
    rw [hv]; exact ⟨cur, hh⟩

set_option maxHeartbeats 1000000 in
theorem without_any (K : Nat → Prop) (ad : Addr) (n c i : Nat) (l : List Int) (w : World) (h : SliceIs w K (some ad) n c l) (hi : i < n) (hn : n ≤ 549755813888) :
    Calls Try.prog 62 #[.slice (some ad) n c, .int .i64 i] w fun e w' => ∃ A' c', e = .returned (.slice A' (n - 1) c') ∧ SliceIs w' (Row3 w') A' (n - 1) c' (l.eraseIdx i) ∧ Below w.heap.size w w' := by
  have H := hide h
  have hcap := h.cap
  have hmax := h.max
  unfold maxLen at hmax
  have hr1 := h.reads.take (j := i) (by omega)
  have hr2 := h.reads.dropS (j := i) (by omega) hcap
  have HR1 := hide hr1
  have HR2 := hide hr2
  clear h hr1 hr2
  have hic : i ≤ c := by omega
  have hic2 : i + 1 ≤ n := by omega
  have hic4 : 0 ≤ (i : Int) + 1 := by omega
  have hic3 : (i : Int) + 1 ≤ (n : Int) := by omega
  have hw1 : IntKind.i64.wrap ((i : Int) + 1) = (i : Int) + 1 := by rw [IntKind.wrap_i64]; omega
  go_enter Try.func62, Try.ntmps62
  go_wp2
  have hB0 : Below w.heap.size w (w.alloc (.cells #[] 3)) := (Below.refl _ _).alloc (Nat.le_refl _) _
  have hown0 : (w.alloc (.cells #[] 3)).drew.ownsRow w.heap.size 3 1 (.slice (some ⟨w.heap.size, 0, none⟩) 0 0) 0 [] := World.ownsRow_lit w #[] 0 (Nat.le_refl _) (by simp [maxLen]) rfl
  have hrd0 : Reads (w.alloc (.cells #[] 3)).drew K 1 (some ad) i (ints (l.take i)) := (HR1.out.below hB0).drewN 1
  have HOWN0 := hide hown0
  have HRD0 := hide hrd0
  have HB0 := hide hB0
  have HRE0 : Hid (Reads (w.alloc (.cells #[] 3)).drew (fun i => i < w.heap.size) 1 (if c = i + 1 then some ad else some ⟨ad.block, ad.off + (i + 1), none⟩) (n - (i + 1)) (ints (l.drop (i + 1)))) := ((HR2.out.more (K' := fun i => i < w.heap.size) (fun i hi _ => hi)).below hB0).drewN 1
  have HBD : Hid (Below w.heap.size w (w.alloc (.cells #[] 3)).drew) := (Chg.ofBelow hB0 (fun _ => False)).drew.toBelow
  clear hB0 hown0 hrd0
  go_region_law
    ((first
      | (refine step_appendR (by rfl) (.tmp 5) (.tmp 8) (by rfl) w.heap.size _ 0 [] (by rfl) HOWN0.out (some ad) i c (l.take i) K (by rfl) HRD0.out (fun h => by cases h) (by omega) (by simp) ?_
         intro v1 w1 hO1 hC1 _
         have HO1 := hide hO1
         have HC1 := hide hC1
         have hs1 : w.heap.size ≤ w1.heap.size := Nat.le_trans HB0.out.size hC1.size
         clear hO1 hC1)
      | (refine step_appendR (by rfl) (.tmp 9) (.tmp 13) (by rfl) w.heap.size v1 (0 + i) _ (by rfl) HO1.out (if c = i + 1 then some ad else some ⟨ad.block, ad.off + (i + 1), none⟩) (n - (i + 1)) (c - (i + 1)) (l.drop (i + 1)) (fun i => i < w.heap.size) (by rfl) (HRE0.out.chg HC1.out (fun i _ hi e => by simp [Value.ownBlock] at e; omega)) (fun h => by split at h <;> cases h) (by omega) hs1 ?_
         intro v2 w2 hO2 hC2 _
         have HO2 := hide hO2
         have HC2 := hide hC2
         clear hO2 hC2)
      | fail))
  all_goals
    have hfin : w2.ownsRow w.heap.size 3 1 v2 (n - 1) (ints (l.eraseIdx i)) := by
      have h1 := HO2.out
      rw [List.nil_append, ← List.map_append, ← List.eraseIdx_eq_take_drop_succ, show 0 + i + (n - (i + 1)) = n - 1 by omega] at h1
      exact h1
    obtain ⟨RA, rc, rfl, hrd⟩ := own_reads hfin
    have hsl : SliceIs w2 (Row3 w2) RA (n - 1) rc (l.eraseIdx i) := SliceIs.of_own hfin
    have hbl : Below w.heap.size w w2 := (HBD.out.trans (HC1.out.below HB0.out.size (fun i hi => by simp [Value.ownBlock] at hi; omega))).trans (HC2.out.below hs1 (fun i hi => (HO1.out.lt i hi).1))
    have HSL := hide hsl
    have HBL := hide hbl
    clear hsl hbl hfin hrd HO2 HC2 HO1 HC1
    go_wp2
    all_goals
      go_ret
      exact ⟨RA, rc, rfl, HSL.out, HBL.out⟩

/-- What popped hands back. -/
def PopOut (l : List Int) (i : Nat) (w : World) (e : Ending) (w' : World) : Prop :=
  ∃ A' c', e = .returned (.tuple #[.slice A' (l.eraseIdx i).length c', .agg ((atAns l i).cells (.slice none 0 0))]) ∧ SliceIs w' (Row3 w') A' (l.eraseIdx i).length c' (l.eraseIdx i) ∧ Below w.heap.size w w'

set_option maxHeartbeats 1000000 in
theorem popped_any (A : Option Addr) (n c : Nat) (z : Int) (i : Nat) (l : List Int) (w : World) (h : SliceIs w (Row3 w) A n c l) (hi : l = [] ∨ (i < n ∧ z = i)) (hn : n ≤ 549755813888) :
    Calls Try.prog 48 #[.slice A n c, .int .i64 z] w (PopOut l i w) := by
  have hln := h.len
  by_cases hl : l = []
  · subst hl
    have hn0 : n = 0 := by simpa using hln.symm
    subst hn0
    have H := hide h
    clear h hi hln
    go_enter Try.func48, Try.ntmps48
    go_wp2
    refine bodyPost_ret (v := .tuple #[.slice A 0 c, .agg #[.int .i64 0, .bool false, .slice none 0 0, .bool false]]) ?_ rfl ?_
    · simp [results, Try.f48, go_sem]
    · exact ⟨A, c, rfl, H.out.rowBelow ((Below.refl _ _).alloc (Nat.le_refl _) _), (Below.refl _ _).alloc (Nat.le_refl _) _⟩
  · obtain ⟨hin, rfl⟩ := hi.resolve_left hl
    obtain ⟨ad, u, rfl, hb, hx, hc⟩ := h.reads.at_ hin
    obtain ⟨rfl, hil⟩ := ints_at hx
    have H := hide h
    have HL := hide hl
    clear h hx hl hi
    go_enter Try.func48, Try.ntmps48
    obtain ⟨x, hxe⟩ : ∃ x, x = l.getD i 0 := ⟨_, rfl⟩
    rw [← hxe] at hc
    have HXE := hide hxe
    clear hxe
    have hb0 : Below w.heap.size w (w.alloc (.cells #[.int .i64 0, .bool false, .slice none 0 0, .bool false] 31)) := (Below.refl _ _).alloc (Nat.le_refl _) _
    have HBD : Hid (Below w.heap.size w (w.alloc (.cells #[.int .i64 0, .bool false, .slice none 0 0, .bool false] 31)).drew) := (Chg.ofBelow hb0 (fun _ => False)).drew.toBelow
    have HSL0 : Hid (SliceIs (w.alloc (.cells #[.int .i64 0, .bool false, .slice none 0 0, .bool false] 31)).drew (Row3 _) (some ad) n c l) := H.out.rowBelow HBD.out
    have HZ0 : Hid (Blk (w.alloc (.cells #[.int .i64 0, .bool false, .slice none 0 0, .bool false] 31)).drew w.heap.size 31 #[.int .i64 0, .bool false, .slice none 0 0, .bool false]) := Blk.new _ _ _
    have hc1 : (w.alloc (.cells #[.int .i64 0, .bool false, .slice none 0 0, .bool false] 31)).cell? (ad.add i) = some (.int .i64 x) := (World.cell?_alloc_lt _ _ _ (by rw [block_of_add]; exact hb)).trans hc
    clear hb0
    go_wp2
    go_region_law
      ((first
        | (go_simp
           go_at_call 62
           refine (without_any _ ad n c i l _ HSL0.out hin hn).mono ?_
           rintro e w2 ⟨A', c', rfl, hsl, hbl⟩
           have hz := HZ0.out.below hbl HZ0.out.lt
           have hc2 : w2.cell? (ad.add i) = some (.int .i64 x) := (hbl.cell (p := ad.add i) (by rw [block_of_add, World.size_drew, World.size_alloc]; omega)).trans hc1
           have k0 : w2.cell? ⟨w.heap.size, 0, none⟩ = some (.int .i64 0) := by rw [hz.cell]; rfl
           have k1 : w2.cell? ⟨w.heap.size, 1, none⟩ = some (.bool false) := by rw [hz.cell]; rfl
           have k2 : w2.cell? ⟨w.heap.size, 2, none⟩ = some (.slice none 0 0) := by rw [hz.cell]; rfl
           have k3 : w2.cell? ⟨w.heap.size, 3, none⟩ = some (.bool false) := by rw [hz.cell]; rfl
           have f0 := hz.frozen 0
           have f1 := hz.frozen 1
           have f2 := hz.frozen 2
           have f3 := hz.frozen 3
           have HSL := hide hsl
           have HBL := hide hbl
           have HZ := hide hz
           clear hsl hbl hz)
        | fail))
    all_goals
      have hz4 := (((HZ.out.set_ 0 (.int .i64 x)).set_ 1 (.bool true)).set_ 2 (.slice none 0 0)).set_ 3 (.bool false)
      have hc4 := set4_chg w2 w.heap.size (.int .i64 x) (.bool true) (.slice none 0 0) (.bool false)
      generalize (((w2.setCell ⟨w.heap.size, 0, none⟩ (.int .i64 x)).setCell ⟨w.heap.size, 1, none⟩ (.bool true)).setCell ⟨w.heap.size, 2, none⟩ (.slice none 0 0)).setCell ⟨w.heap.size, 3, none⟩ (.bool false) = w4 at *
      have hbl4 : Below w.heap.size w w4 := (HBD.out.trans (HBL.out.mono (by simp))).trans (hc4.below (Nat.le_of_lt HZ.out.lt) (fun i hi => by omega))
      have hsl4 : SliceIs w4 (Row3 w4) A' (n - 1) c' (l.eraseIdx i) := HSL.out.row hc4 (fun i cs hb e => hb.ne_ HZ.out (by decide) e)
      have HBL4 := hide hbl4
      have HSL4 := hide hsl4
      have j0 : w4.cell? ⟨w.heap.size, 0, none⟩ = some (.int .i64 x) := by rw [hz4.cell]; rfl
      have j1 : w4.cell? ⟨w.heap.size, 1, none⟩ = some (.bool true) := by rw [hz4.cell]; rfl
      have j2 : w4.cell? ⟨w.heap.size, 2, none⟩ = some (.slice none 0 0) := by rw [hz4.cell]; rfl
      have j3 : w4.cell? ⟨w.heap.size, 3, none⟩ = some (.bool false) := by rw [hz4.cell]; rfl
      clear hz4 hc4 hbl4 hsl4
      go_wp2
      refine bodyPost_ret (v := .tuple #[.slice A' (n - 1) c', .agg #[.int .i64 x, .bool true, .slice none 0 0, .bool false]]) ?_ rfl ?_
      · simp [results, Try.f48, go_sem, j0, j1, j2, j3]
      · have hle : (l.eraseIdx i).length = n - 1 := HSL4.out.len
        unfold PopOut
        rw [hle]
        have hat : atAns l i = ⟨x, true, [], false⟩ := by unfold atAns; rw [if_neg HL.out, HXE.out]
        rw [hat]
        exact ⟨A', c', rfl, HSL4.out, HBL4.out⟩
end Go.Proofs.Ytammpllfmbmdmaa
