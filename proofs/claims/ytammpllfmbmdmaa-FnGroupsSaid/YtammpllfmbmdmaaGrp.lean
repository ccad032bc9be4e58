/- The walks of slices.Clone and of GroupStack[int]: a stack of groups in memory. No condition but sizes. -/
import Derived.Test.YtammpllfmbmdmaaStk2
import Derived.RegionDies
namespace Go.Proofs.Ytammpllfmbmdmaa
open Go.RowKit

/-- 'append(out, l...)' of ints onto a row of the call's own, in a plain region. -/
theorem wpList_appendR {w : World} {ops : Array Oper} {rest : List Oper} {o : Oper} {a : Act} {Q : Exit → Act → World → Prop} (hgd : o.guard = none) (s x : Operand)
    (ho : o.op = .call { callee := .builtin .append, args := #[s, x], argTypes := #[27, 27] })
    (base : Nat) (v : Value) (n : Nat) (xs : List Value) (hsv : a.eval s = v) (hown : w.ownsRow base 3 1 v n xs) (A : Option Addr) (m c : Nat) (ys : List Int) (Kr : Nat → Prop) (hxv : a.eval x = .slice A m c) (hr : Reads w Kr 1 A m (ints ys)) (hnil : A = none → c = 0) (hb : n + m ≤ 1099511627776) (hbase : base ≤ w.heap.size)
    (h : ∀ v' w', w'.ownsRow base 3 1 v' (n + m) (xs ++ ints ys) → Chg (fun g => v.ownBlock = some g) w w' → (v'.ownBlock = v.ownBlock ∨ v'.ownBlock = some w.heap.size) → wpList Try.prog ops Q rest (a.put o.dst v') w') : wpList Try.prog ops Q (o :: rest) a w := by
  refine wpList_plain hgd fun K hK => ?_
  obtain ⟨v', w', h1, h2, h3, h4⟩ := run_appendR w base o.type v n xs hown A m c ys Kr hr hnil hb hbase
  unfold Oper.wp execOp
  simp only [ho, resolve, invoke, builtin, Sem.run_bind, Sem.run_pure, Result.andThen_ok, List.map_toArray, List.map_cons, List.map_nil, hsv, hxv, h1]
  exact hK _ _ (h v' w' h2 (Chg.ofGrown (S := fun g => v.ownBlock = some g) h3 (fun g hg _ => hg)) h4)

/-- What Clone hands back. -/
def Cloned (n : Nat) (l : List Int) (w : World) (e : Ending) (w' : World) : Prop :=
  ∃ A' c', e = .returned (.slice A' n c') ∧ w'.ownsRow w.heap.size 3 1 (.slice A' n c') n (ints l) ∧ Below w.heap.size w w'

set_option maxHeartbeats 1000000 in
set_option maxRecDepth 100000 in
theorem clone_any (K : Nat → Prop) (A : Option Addr) (n c : Nat) (l : List Int) (w : World) (h : SliceIs w K A n c l) (hn : n ≤ 549755813888) :
    Calls Try.prog 45 #[.slice A n c] w (Cloned n l w) := by
  cases A with
  | none =>
    have hc := h.nil_ rfl
    have hcap := h.cap
    subst hc
    have hn0 : n = 0 := by omega
    subst hn0
    have hl : l = [] := List.eq_nil_of_length_eq_zero h.len
    subst hl
    clear h
    have hnil : ∀ W : World, (binOp .eql 27 (.slice none 0 0) (.slice none 0 0)).run Try.prog W = .ok (.bool true) W := fun W => by
      rw [Lib.run_eql_slice_nil (h := Try.underlying27)]; rfl
    go_enter Try.func45, Try.ntmps45
    go_wp2
    go_ret
    exact ⟨none, 0, rfl, World.ownsRow_nil _ _ _ _, Below.refl _ _⟩
  | some ad =>
    have hnil : ∀ W : World, (binOp .eql 27 (.slice (some ad) n c) (.slice none 0 0)).run Try.prog W = .ok (.bool false) W := fun W => by
      rw [Lib.run_eql_slice_nil (h := Try.underlying27)]; rfl
    have hb0 : Below w.heap.size w (w.alloc (.cells #[] 3)) := (Below.refl _ _).alloc (Nat.le_refl _) _
    have hr := h.reads.below hb0
    have hown0 : (w.alloc (.cells #[] 3)).ownsRow w.heap.size 3 1 (.slice (some ⟨w.heap.size, 0, none⟩) 0 0) 0 [] := World.ownsRow_lit w #[] 0 (Nat.le_refl _) (by simp [maxLen]) rfl
    have HR := hide hr
    have HB0 := hide hb0
    clear hr hb0 h
    go_enter Try.func45, Try.ntmps45
    go_wp2_with
      (at_builtin
       go_must (refine wpList_appendR rfl _ _ rfl w.heap.size (.slice (some ⟨w.heap.size, 0, none⟩) 0 0) 0 [] rfl hown0 (some ad) n c l K rfl HR.out (fun h => by cases h) (by omega) (by simp) ?_)
       intro v1 w1 hO hC hat
       have HO := hide hO
       have HC := hide hC
       have hn1 : v1 = v1 := rfl
       clear hO hC hat hn1)
    go_ret
    have hO := HO.out
    rw [Nat.zero_add, List.nil_append] at hO
    obtain ⟨A', c', rfl, _⟩ := own_reads hO
    exact ⟨A', c', rfl, hO, HB0.out.trans ((HC.out.below (B := w.heap.size) (by simp) (fun i hi => by
      have h1 : w.heap.size = i := by simpa [Value.ownBlock] using hi
      omega)))⟩

theorem info27 : (Try.prog.info? 27).map (fun i => (i.zero, i.size, i.bytes)) = some (some (.slice none 0 0), 1, 24) := by kernel_rfl

theorem own_shrinkE {w : World} {B e g cap n : Nat} {xs : List Value} {x y : Value} (h : w.ownsRow B e 1 (.slice (some ⟨g, 0, none⟩) (n + 1) cap) (n + 1) (xs ++ [x])) (hl : xs.length = n) :
    (w.setCell ⟨g, n, none⟩ y).ownsRow B e 1 (.slice (some ⟨g, 0, none⟩) n cap) n xs := by
  obtain ⟨_, h2⟩ := h
  rcases h2 with ⟨h3, _⟩ | ⟨g', cap', cur, hv, hb, hh, hc, hm, hs, ht⟩
  · cases h3
  · injection hv with e1 _ e3
    injection e1 with e1
    injection e1 with e1
    subst e1; subst e3
    have hbl : Blk w g e cur := hh
    refine ⟨by omega, .inr ⟨g, cap, cur.setIfInBounds n y, rfl, hb, hbl.set_ n y, by omega, hm, by simpa using hs, ?_⟩⟩
    rw [Nat.mul_one] at ht ⊢
    rw [Array.toList_setIfInBounds, List.take_set_of_le (Nat.le_refl _)]
    have h4 : (cur.toList.take (n + 1)).take n = (xs ++ [x]).take n := by rw [ht]
    rw [List.take_take, Nat.min_eq_left (by omega), List.take_left' hl] at h4
    exact h4
/-- A row whose last cell is stored anew. -/
theorem own_last {w : World} {B e g cap n : Nat} {xs : List Value} {x y : Value} (h : w.ownsRow B e 1 (.slice (some ⟨g, 0, none⟩) (n + 1) cap) (n + 1) (xs ++ [x])) (hl : xs.length = n) :
    (w.setCell ⟨g, n, none⟩ y).ownsRow B e 1 (.slice (some ⟨g, 0, none⟩) (n + 1) cap) (n + 1) (xs ++ [y]) := by
  have h1 := h.stored n y
  have e1 : (xs ++ [x]).set n y = xs ++ [y] := by rw [List.set_append_right _ _ (by omega), hl, Nat.sub_self]; rfl
  rw [e1] at h1
  exact h1.1

/-- The groups' row in variable gv. -/
def RowV (w : World) (B gv : Nat) (v : Value) (us : List Value) : Prop := Blk w gv 63 #[v] ∧ w.ownsRow B 27 1 v us.length us

theorem index_neg25 (A : Option Addr) (c : Nat) (w : World) : (Instr.indexAt 25 (.slice A 0 c) (.int .i64 (-1))).run Try.prog w = .halt (.panic (boundsValue Try.prog (-1) 0 true 0)) w := by
  have h : Try.prog.underlying 25 = some (.slice (Try.prog.elem 25)) := by kernel_rfl
  cases A with
  | some a =>
    rw [run_indexAt_slice (h := h), if_neg (by omega)]
    exact bounds_neg w
  | none =>
    have e : (Instr.indexAt 25 (.slice none 0 c) (.int .i64 (-1))).run Try.prog w = (boundsPanic IntKind.i64 (-1) 0 .index).run Try.prog w := by
      simp [Instr.indexAt, run_underlying h, asIntOf]
    rw [e]
    exact bounds_neg w

section
variable (B gv : Nat) (v : Value) (us : List Value) (u : Value) (w : World)

theorem rowv_len (h : RowV w B gv v us) :
    Calls Try.prog 86 #[.pointer (some ⟨gv, 0, none⟩)] w fun e w' => e = .returned (.int .i64 us.length) ∧ w' = w := by
  obtain ⟨hb, hown⟩ := h
  obtain ⟨A, c, rfl, _⟩ := own_reads hown
  have hc : w.cell? ⟨gv, 0, none⟩ = some (.slice A us.length c) := by rw [hb.cell]; rfl
  clear hb hown
  go_enter Try.func86, Try.ntmps86
  go_wp2
  go_ret
  exact ⟨rfl, rfl⟩

set_option maxHeartbeats 1000000 in
theorem rowv_ptr (g cap n : Nat) (h : RowV w B gv (.slice (some ⟨g, 0, none⟩) (n + 1) cap) (us ++ [u])) (hn : us.length = n) (hl : n ≤ 1099511627776) :
    Calls Try.prog 85 #[.pointer (some ⟨gv, 0, none⟩)] w fun e w' => e = .returned (.pointer (some ⟨g, n, none⟩)) ∧ ∃ q, w' = w.drewN q := by
  obtain ⟨hb, hown⟩ := h
  have hc : w.cell? ⟨gv, 0, none⟩ = some (.slice (some ⟨g, 0, none⟩) (n + 1) cap) := by rw [hb.cell]; rfl
  have hw : IntKind.i64.wrap ((n : Int) + 1 - 1) = n := by rw [IntKind.wrap_i64]; omega
  clear hb hown
  go_enter Try.func85, Try.ntmps85
  go_wp2
  go_quiet (fail)
  go_wp2
  go_ret
  exact ⟨by simp, _, rfl⟩

set_option maxHeartbeats 1000000 in
set_option maxRecDepth 100000 in
theorem rowv_ptr_none (h : RowV w B gv v []) :
    Calls Try.prog 85 #[.pointer (some ⟨gv, 0, none⟩)] w (PanicsIn w) := by
  obtain ⟨hb, hown⟩ := h
  obtain ⟨A, c, rfl, hr⟩ := own_reads hown
  have hc : w.cell? ⟨gv, 0, none⟩ = some (.slice A 0 c) := by rw [hb.cell]; rfl
  clear hb hown hr
  have hidx := index_neg25 A c
  unfold boundsValue at hidx
  have hw1 : IntKind.i64.wrap (-1) = -1 := by rw [IntKind.wrap_i64]; omega
  go_enter Try.func85, Try.ntmps85
  go_wp2
  go_region_dies
  all_goals exact ⟨rfl, ⟨_, _, rfl⟩, (Chg.refl _ _).drew⟩

set_option maxHeartbeats 1000000 in
set_option maxRecDepth 100000 in
theorem rowv_peek_none (h : RowV w B gv v []) :
    Calls Try.prog 89 #[.pointer (some ⟨gv, 0, none⟩)] w (PanicsIn w) := by
  obtain ⟨hb, hown⟩ := h
  obtain ⟨A, c, rfl, hr⟩ := own_reads hown
  have hc : w.cell? ⟨gv, 0, none⟩ = some (.slice A 0 c) := by rw [hb.cell]; rfl
  clear hb hown hr
  have hidx := index_neg25 A c
  unfold boundsValue at hidx
  have hw1 : IntKind.i64.wrap (-1) = -1 := by rw [IntKind.wrap_i64]; omega
  go_enter Try.func89, Try.ntmps89
  go_wp2
  go_region_dies
  all_goals exact ⟨rfl, ⟨_, _, rfl⟩, (Chg.refl _ _).drew⟩

set_option maxHeartbeats 1000000 in
set_option maxRecDepth 100000 in
theorem rowv_pop_none (h : RowV w B gv v []) :
    Calls Try.prog 88 #[.pointer (some ⟨gv, 0, none⟩)] w (PanicsIn w) := by
  obtain ⟨hb, hown⟩ := h
  obtain ⟨A, c, rfl, hr⟩ := own_reads hown
  have hc : w.cell? ⟨gv, 0, none⟩ = some (.slice A 0 c) := by rw [hb.cell]; rfl
  clear hb hown hr
  have hidx := index_neg25 A c
  unfold boundsValue at hidx
  go_enter Try.func88, Try.ntmps88
  go_wp2
  exact ⟨rfl, ⟨_, _, rfl⟩, Chg.refl _ _⟩

/-- The last cell of a groups' row, as the walk reads it. -/
theorem row_last {w : World} {B e g cap n : Nat} {us : List Value} {u : Value} (h : w.ownsRow B e 1 (.slice (some ⟨g, 0, none⟩) (n + 1) cap) (n + 1) (us ++ [u])) (hn : us.length = n) : w.cell? ⟨g, n, none⟩ = some u ∧ w.frozen? ⟨g, n, none⟩ = false := by
  refine ⟨?_, h.frozenAt n⟩
  rw [h.cellAt n (by omega), List.getElem?_append_right (by omega), hn, Nat.sub_self]; rfl

set_option maxHeartbeats 1000000 in
theorem rowv_peek (g cap n : Nat) (A : Option Addr) (m c : Nat) (h : RowV w B gv (.slice (some ⟨g, 0, none⟩) (n + 1) cap) (us ++ [.slice A m c])) (hn : us.length = n) (hl : n ≤ 1099511627776) :
    Calls Try.prog 89 #[.pointer (some ⟨gv, 0, none⟩)] w fun e w' => e = .returned (.slice A m c) ∧ ∃ q, w' = w.drewN q := by
  obtain ⟨hb, hown⟩ := h
  have hc : w.cell? ⟨gv, 0, none⟩ = some (.slice (some ⟨g, 0, none⟩) (n + 1) cap) := by rw [hb.cell]; rfl
  have hlen : (us ++ [Value.slice A m c]).length = n + 1 := by simp [hn]
  rw [hlen] at hown
  obtain ⟨hx, _⟩ := row_last hown hn
  clear hb hown hlen hn
  go_enter Try.func89, Try.ntmps89
  go_wp2
  go_quiet (fail)
  go_wp2
  go_ret
  exact ⟨rfl, _, rfl⟩

set_option maxHeartbeats 1000000 in
set_option maxRecDepth 100000 in
theorem rowv_pop (g cap n : Nat) (A : Option Addr) (m c : Nat) (h : RowV w B gv (.slice (some ⟨g, 0, none⟩) (n + 1) cap) (us ++ [.slice A m c])) (hn : us.length = n) (hl : n ≤ 1099511627776) :
    Calls Try.prog 88 #[.pointer (some ⟨gv, 0, none⟩)] w fun e w' => e = .returned (.slice A m c) ∧ RowV w' B gv (.slice (some ⟨g, 0, none⟩) n cap) us ∧ Chg (fun k => k = gv ∨ k = g) w w' := by
  obtain ⟨hb, hown⟩ := h
  have hlen : (us ++ [Value.slice A m c]).length = n + 1 := by simp [hn]
  rw [hlen] at hown
  obtain ⟨hx, hfx⟩ := row_last hown hn
  have hcap := own_cap hown
  unfold maxLen at hcap
  obtain ⟨hcap1, hcap2⟩ := hcap
  have hc : w.cell? ⟨gv, 0, none⟩ = some (.slice (some ⟨g, 0, none⟩) (n + 1) cap) := by rw [hb.cell]; rfl
  have hf := hb.frozen 0
  have hgs : g ≠ gv := fun e => by
    obtain ⟨cs, hcs⟩ := own_blk hown rfl
    exact hcs.ne_ hb (by decide) e
  have HB := hide hb
  have HOWN := hide hown
  have HN := hide hn
  clear hb hown hn hlen
  go_enter Try.func88, Try.ntmps88
  go_wp2
  go_ret
  have hsg : gv ≠ g := fun e => hgs e.symm
  refine ⟨rfl, ⟨(HB.out.far (p := ⟨g, n, none⟩) hsg _).set_ 0 _, ?_⟩, ?_⟩
  · rw [HN.out]
    exact ownsRow_setCell_other (own_shrinkE HOWN.out HN.out) (by simp [Value.ownBlock]; exact hgs) _
  · exact ((Chg.refl (fun k => k = gv ∨ k = g) w).setCell (p := ⟨g, n, none⟩) (fun _ => Or.inr rfl) _).setCell (p := ⟨gv, 0, none⟩) (fun _ => Or.inl rfl) _

set_option maxHeartbeats 1000000 in
theorem rowv_push (A : Option Addr) (m c : Nat) (h : RowV w B gv v us) (hl : us.length ≤ 549755813888) (hB : B ≤ w.heap.size) :
    Calls Try.prog 87 #[.pointer (some ⟨gv, 0, none⟩), .slice A m c] w fun e w' => e = .returned (.tuple #[]) ∧ ∃ v', RowV w' B gv v' (us ++ [.slice A m c]) ∧ (v'.ownBlock = v.ownBlock ∨ v'.ownBlock = some (w.heap.size + 1)) ∧ Chg (fun k => k = gv ∨ v.ownBlock = some k) w w' := by
  obtain ⟨hb, hown⟩ := h
  obtain ⟨i0, hi, hz0, hz1, hz2⟩ := info_parts info27
  have hc : w.cell? ⟨gv, 0, none⟩ = some v := by rw [hb.cell]; rfl
  have hf := hb.frozen 0
  have hlt := hb.lt
  have hvs : v.ownBlock ≠ some gv := fun e => by
    obtain ⟨cs, hcs⟩ := own_blk hown e
    exact hcs.ne_ hb (by decide) rfl
  have HB := hide hb
  have HVS := hide hvs
  obtain ⟨n, hn⟩ : ∃ n, n = us.length := ⟨_, rfl⟩
  rw [← hn] at hown hl
  have HN := hide hn
  clear hb hvs hn
  go_enter Try.func87, Try.ntmps87
  go_wp2_with (at_builtin; go_must (refine wpList_append1 rfl _ _ 25 rfl B 27 i0 (.slice none 0 0) 24 Try.underlying25 hi hz0 hz1 hz2 rfl v n _ rfl (hown.alloc _) _ 1 (.slice A m c) rfl (cell_one_new w (.slice A m c) 27 0 _ rfl) rfl (by unfold maxLen; omega) (by omega) (by simp; omega) ?_); intro g c1 w1 hO _ hG hat _; have hc1 : w1.cell? ⟨gv, 0, none⟩ = some v := ((hG.cell_far _ (by simp; omega) (fun e => HVS.out e.symm)).trans (by rw [World.cell?_alloc_lt _ _ _ hlt]; exact hc)); have hf1 : w1.frozen? ⟨gv, 0, none⟩ = false := ((hG.frozen_far _ (by simp; omega) (fun e => HVS.out e.symm)).trans (by rw [World.frozen?_alloc_old _ _ _ (Nat.ne_of_lt hlt)]; exact hf)); have HO := hide hO; have HG := hide hG; have HAT := hide hat; clear hO hG hat)
  go_end0
  have hgs : g ≠ gv := by
    rcases HAT.out with h | h
    · exact fun e => HVS.out (by rw [h, e])
    · intro e
      rw [World.size_alloc] at h
      omega
  have hb1 : Blk w1 gv 63 #[v] := (HG.out.block gv (by simp; omega) (fun e => HVS.out e.symm)).trans (HB.out.alloc _)
  refine ⟨rfl, .slice (some ⟨g, 0, none⟩) (n + 1) c1, ⟨hb1.set_ 0 _, ?_⟩, ?_, ?_⟩
  · have e1 : (us ++ [Value.slice A m c]).length = n + 1 := by rw [List.length_append, HN.out]; rfl
    rw [e1]
    exact ownsRow_setCell_other HO.out (by simp [Value.ownBlock]; exact hgs) _
  · rcases HAT.out with h | h
    · exact Or.inl (by rw [h]; rfl)
    · rw [World.size_alloc] at h
      exact Or.inr (by rw [h]; rfl)
  · have h1 : Chg (fun k => k = gv ∨ v.ownBlock = some k) w w1 := ((Chg.refl (fun k => k = gv ∨ v.ownBlock = some k) w).alloc _).trans (Chg.ofGrown (S := fun k => v.ownBlock = some k) HG.out (fun g hg _ => hg)) (fun i _ h => Or.inr h)
    exact h1.setCell (p := ⟨gv, 0, none⟩) (fun _ => Or.inl rfl) _
end
end Go.Proofs.Ytammpllfmbmdmaa
