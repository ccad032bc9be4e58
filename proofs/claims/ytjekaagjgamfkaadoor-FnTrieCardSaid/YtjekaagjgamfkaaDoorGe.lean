/- Pure growth of memory; appends of entries as steps of a region that draws its order. No condition but sizes. -/
import Derived.Test.YtjekaagjgamfkaaDoorPt
import Derived.Test.YtjekaagjgamfkaaDoorTm2
import Derived.Test.YtjekaagjgamfkaaDoorLs
import Derived.Deep.RegionLaw
import Derived.Deep.RegionHeld3
namespace Go.Proofs.YtjekaagjgamfkaaDoor
open Go.RowKit T

/-- Nothing that was there has changed. -/
abbrev Gr (w w' : World) : Prop := Chg (fun _ => False) w w'

section
variable {w w' w0 : World} {b t : Nat} {cs : Array Value} {base e size n : Nat} {v : Value} {xs : List Value} {S : Nat → Prop}
theorem Gr.blk (h : Gr w w') : ∀ b t cs, Blk w b t cs → Blk w' b t cs := fun _ _ _ hb => hb.chg h (fun h => h)
theorem Gr.own (h : Gr w w') : ∀ base e size v n xs, w.ownsRow base e size v n xs → w'.ownsRow base e size v n xs := fun _ _ _ _ _ _ ho => own_chg ho h (fun _ _ h => h)
theorem Gr.cell (h : Gr w w') {p : Addr} (hp : p.block < w.heap.size) : w'.cell? p = w.cell? p := Chg.cell h hp (fun h => h)
theorem Gr.below (h : Gr w w') : Below w.heap.size w w' := h.toBelow
theorem Gr.ofBelow (h : Below w.heap.size w w') : Gr w w' := Chg.ofBelow h _
theorem Gr.then (h : Gr w0 w) (hc : Chg S w w') (hS : ∀ i, S i → w0.heap.size ≤ i) : Gr w0 w' := h.trans hc (fun i hi hs => by have := hS i hs; omega)
theorem own_drew (h : w.ownsRow base e size v n xs) : w.drew.ownsRow base e size v n xs := h
theorem Blk.drew_ (h : Blk w b t cs) : Blk w.drew b t cs := h
/-- What the change of a row of another kind leaves. -/
theorem blk_other {v' : Value} {n' e' size' base' : Nat} {xs' : List Value} (hc : Chg (fun g => v'.ownBlock = some g) w w') (ho : w.ownsRow base' e' size' v' n' xs') (hb : Blk w b t cs) (hne : t ≠ e') : Blk w' b t cs :=
  hb.chg hc (fun h => by
    obtain ⟨cs', hcs⟩ := own_blk ho h
    exact hb.ne_ hcs hne rfl)
theorem own_other {v' : Value} {n' e' size' base' : Nat} {xs' : List Value} (hc : Chg (fun g => v'.ownBlock = some g) w w') (ho : w.ownsRow base' e' size' v' n' xs') (h : w.ownsRow base e size v n xs) (hne : e ≠ e') : w'.ownsRow base e size v n xs :=
  own_chg h hc (fun g hg hg' => by
    obtain ⟨cs, hcs⟩ := own_blk h hg
    obtain ⟨cs', hcs'⟩ := own_blk ho hg'
    exact hcs.ne_ hcs' hne rfl)
end

set_option maxRecDepth 100000 in
/-- 'append(T{}, xs...)': a fresh row with the elements. -/
theorem run_append0 (w : World) (base : Nat) (t ty e : TypeId) (i : TypeInfo) (z : Value) (size bytes : Nat) (ht : Tryd.prog.underlying t = some (.slice e)) (hi : Tryd.prog.info? e = some i) (hz : i.zero = some z) (hs : i.size = size) (hby : i.bytes = bytes) (hzs : z.cells.size = size) (_hsp : 0 < size)
    (g : Nat) (hg : Blk w g e #[]) (hb : base ≤ g) (A : Option Addr) (m c : Nat) (xs : List Value) (K : Nat → Prop) (hr : Reads w K size A m xs) (h1 : ∀ u ∈ xs, u.oneCell' = true) (hnil : A = none → c = 0) (hm : m ≤ maxLen) (hbytes : m * bytes ≤ 140737488355328) :
    ∃ v' w', (Builtin.append_ #[t, t] ty #[.slice (some ⟨g, 0, none⟩) 0 0, .slice A m c]).run Tryd.prog w = .ok v' w' ∧ w'.ownsRow base e size v' m xs ∧ Gr w w' ∧ (v'.ownBlock = some g ∨ v'.ownBlock = some w.heap.size) := by
  have hm2 := hm
  unfold maxLen at hm2
  have hown : w.ownsRow base e size (.slice (some ⟨g, 0, none⟩) 0 0) 0 [] := ⟨by simp, .inr ⟨g, 0, #[], rfl, hb, hg, Nat.le_refl _, by simp [maxLen], by simp, by simp⟩⟩
  cases A with
  | none =>
    have hm0 : m = 0 := by
      rcases Nat.eq_zero_or_pos m with h | h
      · exact h
      · obtain ⟨_, e, _⟩ := hr.2 h; cases e
    subst hm0
    have hx : xs = [] := List.eq_nil_of_length_eq_zero (by have := hr.1; simpa using this)
    subst hx
    rw [hnil rfl]
    exact ⟨_, w, run_append_owned_none (P := Tryd.prog) (w := w) base t ty e i size ht hi _ 0 [] hown, hown, Chg.refl _ _, Or.inl rfl⟩
  | some ad =>
    have hnews : ∀ j u, xs[j]? = some u → w.cell? (ad.add j) = some u := by
      intro j u hj
      have hm : 0 < m := by
        have h1 := (List.getElem?_eq_some_iff.1 hj).1
        have h2 := hr.1
        rcases Nat.eq_zero_or_pos m with h | h
        · rw [h] at h2; simp at h2; subst h2; cases hj
        · exact h
      obtain ⟨ad', e, _, _, hc⟩ := hr.2 hm
      injection e with e
      subst e
      exact hc j u hj
    rcases Nat.eq_zero_or_pos m with h0 | h0
    · subst h0
      have hx : xs = [] := List.eq_nil_of_length_eq_zero (by have := hr.1; simpa using this)
      subst hx
      have hrun := run_append_room (P := Tryd.prog) (w := w) t ty e i ht hi g 0 0 #[] hg ad 0 c [] (by simp) (fun j u hj => by cases hj) (fun u hu => by cases hu) (by omega) (by simp)
      simp only [Nat.zero_mul, List.take_zero, List.length_nil, Nat.add_zero, List.drop_zero, List.append_nil] at hrun
      have hblk : Blk (w.setRow g #[]) g e #[] := setRow_heap w g #[] #[] e (0, 0) hg
      refine ⟨_, _, hrun, ⟨by simp, .inr ⟨g, 0, #[], rfl, hb, hblk, Nat.le_refl _, by simp [maxLen], by simp, by simp⟩⟩, ⟨rfl, rfl, rfl, by simp [World.setRow], fun k _ _ => ?_⟩, Or.inl rfl⟩
      by_cases hk : k = g
      · subst hk; exact hblk.trans hg.symm
      · exact setRow_other w g k _ hk
    · have hrun := run_append_grow (P := Tryd.prog) (w := w) t ty e i z ht hi hz ⟨g, 0, none⟩ 0 0 [] (by simp) (fun j u hj => by cases hj) ad m c xs (by rw [hs]; exact hr.1) hnews (by omega) (by omega) (growslice_fits (by omega) (by rw [hby, Nat.zero_add]; exact hbytes))
      simp only [Nat.zero_add, Array.empty_append] at hrun
      have hge := grownCap_ge w m 0 e
      have hl := hr.1
      refine ⟨_, _, hrun, ⟨hl, .inr ⟨w.heap.size, _, _, rfl, Nat.le_trans hb (Nat.le_of_lt hg.lt), heap_alloc_new w.drew _, hge, grownCap_le_maxLen w m 0 e hm, ?_, ?_⟩⟩, ⟨rfl, rfl, rfl, by simp, fun k hk _ => Below.heap_alloc w.drew _ k hk⟩, Or.inr rfl⟩
      · have h2 : (grownCap w m 0 e - m) * size = grownCap w m 0 e * size - m * size := Nat.sub_mul _ _ _
        have h3 : m * size ≤ grownCap w m 0 e * size := Nat.mul_le_mul_right _ hge
        have h4 : (xs.toArray ++ Builtin.zeroCells z.cells (grownCap w m 0 e - m)).size = xs.length + (grownCap w m 0 e - m) * size := by simp [size_zeroCells, hzs]
        rw [h4, h2, hl]; omega
      · have e1 : (xs.toArray ++ Builtin.zeroCells z.cells (grownCap w m 0 e - m)).toList = xs ++ (Builtin.zeroCells z.cells (grownCap w m 0 e - m)).toList := by simp
        rw [e1]
        exact List.take_left' hl

/-- .. as a step. -/
theorem step_append0 {w : World} {ops : Array Oper} {o : Oper} {a : Act} {K : Act → World → Prop} {Q : Exit → Act → World → Prop} {E : Prop} (hgd : o.guard = none) (s x : Operand) (t : TypeId)
    (ho : o.op = .call { callee := .builtin .append, args := #[s, x], argTypes := #[t, t] })
    (base : Nat) (e : TypeId) (i : TypeInfo) (z : Value) (size bytes : Nat) (ht : Tryd.prog.underlying t = some (.slice e)) (hi : Tryd.prog.info? e = some i) (hz : i.zero = some z) (hs : i.size = size) (hby : i.bytes = bytes) (hzs : z.cells.size = size) (hsp : 0 < size)
    (g : Nat) (hsv : a.eval s = .slice (some ⟨g, 0, none⟩) 0 0) (hg : Blk w g e #[]) (hb : base ≤ g) (A : Option Addr) (m c : Nat) (xs : List Value) (Kr : Nat → Prop) (hxv : a.eval x = .slice A m c) (hr : Reads w Kr size A m xs) (h1 : ∀ u ∈ xs, u.oneCell' = true) (hnil : A = none → c = 0) (hm : m ≤ maxLen) (hbytes : m * bytes ≤ 140737488355328)
    (h : ∀ v' w', w'.ownsRow base e size v' m xs → Gr w w' → K (a.put o.dst v') w') :
    if Region.wanted o (yielded ops a.tmps) = true then Oper.wp Tryd.prog o a w K Q else E := by
  have hw : Region.wanted o (yielded ops a.tmps) = true := by simp [Region.wanted, hgd]
  rw [if_pos hw]
  obtain ⟨v', w', h2, h3, h4, _⟩ := run_append0 w base t o.type e i z size bytes ht hi hz hs hby hzs hsp g hg hb A m c xs Kr hr h1 hnil hm hbytes
  unfold Oper.wp execOp
  simp only [ho, resolve, invoke, builtin, Sem.run_bind, Sem.run_pure, Result.andThen_ok, List.map_toArray, List.map_cons, List.map_nil, hsv, hxv, h2]
  exact h v' w' h3 h4

set_option maxRecDepth 100000 in
/-- 'append(v, l...)' onto a row of the call's own, nil sources too, as a step. -/
theorem step_appendG {w : World} {ops : Array Oper} {o : Oper} {a : Act} {K : Act → World → Prop} {Q : Exit → Act → World → Prop} {E : Prop} (hgd : o.guard = none) (s x : Operand) (t : TypeId)
    (ho : o.op = .call { callee := .builtin .append, args := #[s, x], argTypes := #[t, t] })
    (base : Nat) (e : TypeId) (i : TypeInfo) (z : Value) (size bytes : Nat) (ht : Tryd.prog.underlying t = some (.slice e)) (hi : Tryd.prog.info? e = some i) (hz : i.zero = some z) (hs : i.size = size) (hby : i.bytes = bytes) (hzs : z.cells.size = size) (hsp : 0 < size)
    (v : Value) (hsv : a.eval s = v) (n : Nat) (xs : List Value) (hown : w.ownsRow base e size v n xs) (hbase : base ≤ w.heap.size) (A : Option Addr) (m c : Nat) (ys : List Value) (Kr : Nat → Prop) (hxv : a.eval x = .slice A m c) (hr : Reads w Kr size A m ys) (hnil : A = none → c = 0) (h1 : ∀ u ∈ ys, u.oneCell' = true) (hm : n + m ≤ maxLen) (hbytes : (n + m) * bytes ≤ 140737488355328)
    (h : ∀ v' w', w'.ownsRow base e size v' (n + m) (xs ++ ys) → Chg (fun g => v.ownBlock = some g) w w' → K (a.put o.dst v') w') :
    if Region.wanted o (yielded ops a.tmps) = true then Oper.wp Tryd.prog o a w K Q else E := by
  have hw : Region.wanted o (yielded ops a.tmps) = true := by simp [Region.wanted, hgd]
  rw [if_pos hw]
  have hex : ∃ v' w', (Builtin.append_ #[t, t] o.type #[v, .slice A m c]).run Tryd.prog w = .ok v' w' ∧ w'.ownsRow base e size v' (n + m) (xs ++ ys) ∧ Chg (fun g => v.ownBlock = some g) w w' := by
    cases A with
    | none =>
      have hm0 : m = 0 := by
        rcases Nat.eq_zero_or_pos m with h | h
        · exact h
        · obtain ⟨_, e, _⟩ := hr.2 h; cases e
      subst hm0
      have hy : ys = [] := List.eq_nil_of_length_eq_zero (by have := hr.1; simpa using this)
      subst hy
      rw [hnil rfl]
      exact ⟨v, w, run_append_owned_none (P := Tryd.prog) (w := w) base t o.type e i size ht hi v n xs hown, by simpa using hown, Chg.refl _ _⟩
    | some ad =>
      obtain ⟨v', w', h2, h3, h4, _, _⟩ := run_append_own_at (P := Tryd.prog) w base t o.type e i z size bytes ht hi hz hs hby hzs hsp v n xs hown ad m c ys hr.1 (fun j u hj => by
        have hm : 0 < m := by
          have h1 := (List.getElem?_eq_some_iff.1 hj).1
          have h2 := hr.1
          rcases Nat.eq_zero_or_pos m with h | h
          · rw [h] at h2; simp at h2; subst h2; cases hj
          · exact h
        obtain ⟨ad', e, _, _, hc⟩ := hr.2 hm
        injection e with e
        subst e
        exact hc j u hj) h1 hm hbytes hbase
      exact ⟨v', w', h2, h3, Chg.ofGrown (S := fun g => v.ownBlock = some g) h4 (fun g hg _ => hg)⟩
  obtain ⟨v', w', h2, h3, h4⟩ := hex
  unfold Oper.wp execOp
  simp only [ho, resolve, invoke, builtin, Sem.run_bind, Sem.run_pure, Result.andThen_ok, List.map_toArray, List.map_cons, List.map_nil, hsv, hxv, h2]
  exact h v' w' h3 h4

theorem info37 : (Tryd.prog.info? 37).map (fun i => (i.zero, i.size, i.bytes)) = some (some (.agg #[.string ⟨#[]⟩, .int .i64 0]), 2, 24) := by kernel_rfl
theorem ents_one (E : List (Bs × Int)) : ∀ u ∈ ents E, u.oneCell' = true := fun u hu => by
  obtain ⟨p, _, h⟩ := List.mem_flatMap.1 hu
  simp at h
  rcases h with rfl | rfl <;> rfl
theorem ents_append (a b : List (Bs × Int)) : ents (a ++ b) = ents a ++ ents b := by simp [ents]
theorem ents_take (E : List (Bs × Int)) (j : Nat) : ents (E.take j) = (ents E).take (j * 2) := by
  induction j generalizing E with
  | zero => simp [ents]
  | succ j ih =>
    cases E with
    | nil => simp [ents]
    | cons p E =>
      have h1 : ents (p :: E) = .string (S p.1) :: .int .i64 p.2 :: ents E := rfl
      rw [h1, Nat.succ_mul]
      show ents (p :: E.take j) = _
      have h2 : ents (p :: E.take j) = .string (S p.1) :: .int .i64 p.2 :: ents (E.take j) := rfl
      rw [h2, ih]
      rfl
theorem ents_drop (E : List (Bs × Int)) (j : Nat) : ents (E.drop j) = (ents E).drop (j * 2) := by
  induction j generalizing E with
  | zero => simp [ents]
  | succ j ih =>
    cases E with
    | nil => simp [ents]
    | cons p E =>
      have h1 : ents (p :: E) = .string (S p.1) :: .int .i64 p.2 :: ents E := rfl
      rw [h1, Nat.succ_mul]
      show ents (E.drop j) = _
      rw [ih]
      rfl
theorem Reads.takeE {w : World} {K : Nat → Prop} {A : Option Addr} {n j : Nat} {E : List (Bs × Int)} (h : Reads w K 2 A n (ents E)) (hj : j ≤ n) : Reads w K 2 A j (ents (E.take j)) := by
  have hl : E.length = n := by have := h.1; rw [ents_len] at this; omega
  refine ⟨by rw [ents_len, List.length_take]; omega, fun h0 => ?_⟩
  obtain ⟨ad, e, hk, hlt, hc⟩ := h.2 (by omega)
  refine ⟨ad, e, hk, hlt, fun i u hu => hc i u ?_⟩
  rw [ents_take, List.getElem?_take] at hu
  split at hu
  · exact hu
  · cases hu
theorem Reads.dropE {w : World} {K : Nat → Prop} {ad : Addr} {n c j : Nat} {E : List (Bs × Int)} (h : Reads w K 2 (some ad) n (ents E)) (hj : j ≤ n) (hc : n ≤ c) : Reads w K 2 (if c = j then some ad else some (ad.add (j * 2))) (n - j) (ents (E.drop j)) := by
  have hl : E.length = n := by have := h.1; rw [ents_len] at this; omega
  split
  · have h0 : n - j = 0 := by omega
    rw [h0, List.drop_of_length_le (by omega)]
    exact ⟨rfl, fun h => absurd h (by omega)⟩
  · refine ⟨by rw [ents_len, List.length_drop]; omega, fun h0 => ?_⟩
    obtain ⟨ad', e, hk, hlt, hcl⟩ := h.2 (by omega)
    injection e with e
    subst e
    refine ⟨ad.add (j * 2), rfl, by rw [block_of_add]; exact hk, by rw [block_of_add]; exact hlt, fun i u hu => ?_⟩
    rw [add_of_add]
    refine hcl (j * 2 + i) u ?_
    rw [ents_drop, List.getElem?_drop] at hu
    exact hu
end Go.Proofs.YtjekaagjgamfkaaDoor
