/- Appends of texts; a key that begins a text, plain. No condition but sizes. -/
import Derived.Test.YtjekaagjgamfkaaDoorLs
import Derived.Test.YtjekaagjgamfkaaDoorIns
import Derived.Test.YtjekaagjgamfkaaDoorPv
import Derived.Test.YtjekaagjgamfkaaDoorKy
namespace Go.Proofs.YtjekaagjgamfkaaDoor
open Go.RowKit T

theorem info9 : (Tryd.prog.info? 9).map (fun i => (i.zero, i.size, i.bytes)) = some (some (.string ⟨#[]⟩), 1, 16) := by kernel_rfl
theorem strs_one (ks : List Bs) : ∀ u ∈ strs ks, u.oneCell' = true := fun u hu => by
  obtain ⟨k, _, rfl⟩ := List.mem_map.1 hu
  rfl
theorem strs_append (a b : List Bs) : strs (a ++ b) = strs a ++ strs b := by simp [strs]

set_option maxRecDepth 100000 in
/-- 'append(v, l...)' of texts onto a row of the call's own, nil sources too. -/
theorem wpList_appendS {w : World} {ops : Array Oper} {rest : List Oper} {o : Oper} {a : Act} {Q : Exit → Act → World → Prop} (hgd : Region.wanted o (yielded ops a.tmps) = true) (s x : Operand)
    (ho : o.op = .call { callee := .builtin .append, args := #[s, x], argTypes := #[22, 22] }) (base : Nat) (v : Value) (n : Nat) (xs : List Value) (hsv : a.eval s = v) (hown : w.ownsRow base 9 1 v n xs) (A : Option Addr) (m c : Nat) (ks : List Bs) (hxv : a.eval x = .slice A m c) (hr : StrsIn w A m ks) (hnil : A = none → c = 0) (hb : n + m ≤ 1099511627776) (hbase : base ≤ w.heap.size)
    (h : ∀ v' w', Hid (w'.ownsRow base 9 1 v' (n + m) (xs ++ strs ks)) → Hid (Chg (fun g => v.ownBlock = some g) w w') → wpList Tryd.prog ops Q rest (a.put o.dst v') w') : wpList Tryd.prog ops Q (o :: rest) a w := by
  obtain ⟨i0, hi, hz0, hz1, hz2⟩ := info_parts info9
  have hl : (strs ks).length = m := by simp [strs, hr.len]
  have hex : ∃ v' w', (Builtin.append_ #[22, 22] o.type #[v, .slice A m c]).run Tryd.prog w = .ok v' w' ∧ w'.ownsRow base 9 1 v' (n + m) (xs ++ strs ks) ∧ Chg (fun g => v.ownBlock = some g) w w' := by
    cases A with
    | none =>
      have hm : m = 0 := by
        rcases Nat.eq_zero_or_pos m with h | h
        · exact h
        · obtain ⟨_, e, _⟩ := hr.2 h; cases e
      subst hm
      have hk : ks = [] := List.eq_nil_of_length_eq_zero hr.len
      subst hk
      rw [hnil rfl]
      exact ⟨v, w, run_append_owned_none (P := Tryd.prog) (w := w) base 22 o.type 9 i0 1 Tryd.underlying22 hi v n xs hown, by simpa [strs] using hown, Chg.refl _ _⟩
    | some ad =>
      obtain ⟨v', w', h1, h2, h3, _, _⟩ := run_append_own_at (P := Tryd.prog) w base 22 o.type 9 i0 _ 1 16 Tryd.underlying22 hi hz0 hz1 hz2 rfl (by decide) v n xs hown ad m c (strs ks) (by rw [hl]; omega) (fun j u hj => by
        have hjl := (List.getElem?_eq_some_iff.1 hj).1
        obtain ⟨ad', e, _, _, hc⟩ := hr.2 (by omega)
        injection e with e
        subst e
        exact hc j u hj) (strs_one ks) (by unfold maxLen; omega) (by omega) hbase
      exact ⟨v', w', h1, h2, Chg.ofGrown (S := fun g => v.ownBlock = some g) h3 (fun g hg _ => hg)⟩
  obtain ⟨v', w', h1, h2, h3⟩ := hex
  refine wpList_step fun K hK => ?_
  rw [if_pos hgd]
  unfold Oper.wp execOp
  simp only [ho, resolve, invoke, builtin, Sem.run_bind, Sem.run_pure, Result.andThen_ok, List.map_toArray, List.map_cons, List.map_nil, hsv, hxv, h1]
  exact hK _ _ (h v' w' h2 h3)

/-- A key that begins a text is found. -/
theorem has_any {s : St} {root : Nat} {ks : List Bs} (h : Inv s root) (hk : Keyed s ks) (q : Bs) : (!(pfx s (q.length + 1) root q).isEmpty) = ks.any (fun k => k.isPrefixOf q) := by
  obtain ⟨d0, hd0, hp0⟩ := h.root
  have hm := fun k => pfx_mem h (q.length + 1) root d0 q k hd0 (Nat.lt_succ_self _)
  rw [Bool.eq_iff_iff, List.any_eq_true]
  constructor
  · intro h1
    have h2 : (pfx s (q.length + 1) root q) ≠ [] := by simpa using h1
    obtain ⟨k, hk1⟩ := List.exists_mem_of_ne_nil _ h2
    obtain ⟨p, m, h3, h4⟩ := (hm k).1 hk1
    rw [hp0, List.nil_append] at h3
    exact ⟨p, (hk.num _ _ _ h3).1, List.isPrefixOf_iff_prefix.2 h4⟩
  · rintro ⟨p, hp, h1⟩
    obtain ⟨k, m, h2⟩ := hk.has p hp
    have h3 : k ∈ pfx s (q.length + 1) root q := (hm k).2 ⟨p, m, by rw [hp0, List.nil_append]; exact h2, List.isPrefixOf_iff_prefix.1 h1⟩
    have h4 : (pfx s (q.length + 1) root q) ≠ [] := List.ne_nil_of_mem h3
    simpa using h4

/-- A text ends with a key. -/
def endsB (str k : Bs) : Bool := decide (k.length ≤ str.length) && (str.drop (str.length - k.length) == k)
theorem ends_rev (str k : Bs) : k.reverse.isPrefixOf str.reverse = endsB str k := by
  rw [Bool.eq_iff_iff]
  unfold endsB
  rw [Bool.and_eq_true, List.isPrefixOf_iff_prefix, List.reverse_prefix, decide_eq_true_iff, beq_iff_eq]
  constructor
  · intro h
    refine ⟨h.length_le, ?_⟩
    exact (List.suffix_iff_eq_drop.1 h).symm
  · rintro ⟨_, h2⟩
    exact List.suffix_iff_eq_drop.2 h2.symm
end Go.Proofs.YtjekaagjgamfkaaDoor
