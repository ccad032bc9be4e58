/- The second loop of the law FnMaps: what it holds. No condition. -/
import Derived.Test.YtammpllfmbmdmaaFmA
namespace Go.Proofs.Ytammpllfmbmdmaa
open Go.RowKit

/-- The answers of impl.Maps as the second loop leaves them. -/
structure L2 (W wr : World) (v : Value) (F L : List AnsD) (j : Nat) (P : List (AnsD × Value)) : Prop where
  out : OutRow wr (Row3 wr) 46 W.heap.size v P
  eq : P.map (·.1) = F.take j ++ L.drop j
  len : F.length = L.length
  bel : Below W.heap.size W wr

theorem L2.lenP {W wr : World} {v : Value} {F L : List AnsD} {j : Nat} {P : List (AnsD × Value)} (h : L2 W wr v F L j P) (hj : j ≤ L.length) : P.length = L.length := by
  have h1 := congrArg List.length h.eq
  have h2 := h.len
  rw [List.length_map, List.length_append, List.length_take, List.length_drop] at h1
  omega

theorem L2.keep_ {W wr : World} {v : Value} {F L : List AnsD} {j : Nat} {P : List (AnsD × Value)} {a : AnsD} (h : L2 W wr v F L j P) (hL : L[j]? = some a) (hF : F[j]? = some a) : L2 W wr v F L (j + 1) P := by
  refine ⟨h.out, ?_, h.len, h.bel⟩
  obtain ⟨h1, h2⟩ := List.getElem?_eq_some_iff.1 hL
  rw [h.eq, List.take_add_one, hF, List.drop_eq_getElem_cons h1, h2]
  simp

theorem L2.at_ {W wr : World} {v : Value} {F L : List AnsD} {j : Nat} {P : List (AnsD × Value)} (h : L2 W wr v F L j P) (hj : j < L.length) :
    ∃ g cap a u, v = .slice (some ⟨g, 0, none⟩) P.length cap ∧ P[j]? = some (a, u) ∧ L[j]? = some a ∧ wr.cell? ⟨g, j * 4, none⟩ = some (.int .i64 a.n) ∧ wr.cell? ⟨g, j * 4 + 1, none⟩ = some (.bool a.ok) ∧ wr.frozen? ⟨g, j * 4, none⟩ = false ∧ W.heap.size ≤ g := by
  have hl := h.lenP (by omega)
  have hP : P[j]? = some P[j] := List.getElem?_eq_getElem (by omega)
  have hm : (P.map (·.1))[j]? = some (P[j]).1 := by rw [List.getElem?_map, hP]; rfl
  have hlF := h.len
  rw [h.eq, List.getElem?_append_right (by rw [List.length_take]; omega), List.length_take, List.getElem?_drop, show j + (j - min j F.length) = j by omega] at hm
  rcases h.out.own.2 with ⟨_, h0⟩ | ⟨g, cap, cur, hv, hb, hh, _⟩
  · omega
  · subst hv
    have hc := h.out.own.cells (g := g) rfl
    have c : ∀ q, q < 4 → (ansFlat P)[j * 4 + q]? = ((P[j]).1.cells (P[j]).2).toList[q]? := ansFlat_cells (fun p : AnsD × Value => (p.1.cells p.2).toList) (fun _ => rfl) hP
    have c0 := hc _ _ ((c 0 (by omega)).trans rfl)
    have c1 := hc _ _ ((c 1 (by omega)).trans rfl)
    rw [add_plain, Nat.zero_add] at c0 c1
    exact ⟨g, cap, (P[j]).1, (P[j]).2, rfl, hP, hm, c0, c1, (show Blk wr g 46 cur from hh).frozen _, hb⟩

theorem ansFlat_set : ∀ (P : List (AnsD × Value)) (j : Nat) (a : AnsD) (u : Value) (n : Int), P[j]? = some (a, u) → (ansFlat P).set (j * 4) (.int .i64 n) = ansFlat (P.set j ({ a with n := n }, u))
  | [], _, _, _, _, h => by cases h
  | p :: P, 0, a, u, n, h => by
    have : p = (a, u) := Option.some.inj h
    subst this
    rfl
  | p :: P, j + 1, a, u, n, h => by
    have ih := ansFlat_set P j a u n h
    have e : ∀ (q : AnsD × Value) (Q : List (AnsD × Value)), ansFlat (q :: Q) = .int .i64 q.1.n :: .bool q.1.ok :: q.2 :: .bool q.1.panicked :: ansFlat Q := fun _ _ => rfl
    rw [List.set_cons_succ, e, e, ← ih, show (j + 1) * 4 = j * 4 + 1 + 1 + 1 + 1 by omega]
    rfl

theorem L2.set_ {W wr : World} {g n cap : Nat} {F L : List AnsD} {j : Nat} {P : List (AnsD × Value)} {a : AnsD} {u : Value} (h : L2 W wr (.slice (some ⟨g, 0, none⟩) n cap) F L j P) (hP : P[j]? = some (a, u)) (hL : L[j]? = some a) (hF : F[j]? = some { a with n := 0 }) (hg : W.heap.size ≤ g) :
    L2 W (wr.setCell ⟨g, j * 4, none⟩ (.int .i64 0)) (.slice (some ⟨g, 0, none⟩) n cap) F L (j + 1) (P.set j ({ a with n := 0 }, u)) := by
  have hn : n = P.length := by
    rcases h.out.own.2 with ⟨h0, _⟩ | ⟨g', cap', cur, hv, _⟩
    · cases h0
    · cases hv; rfl
  subst hn
  obtain ⟨h1, h2⟩ := List.getElem?_eq_some_iff.1 hL
  have hc : Chg (fun i => i = g) wr (wr.setCell ⟨g, j * 4, none⟩ (.int .i64 0)) := (Chg.refl (fun i => i = g) wr).setCell (p := ⟨g, j * 4, none⟩) (fun _ => rfl) _
  have h3 : ∀ i cs, Blk wr i 3 cs → ¬ i = g := fun i cs hb e => by
    obtain ⟨cs', hb'⟩ := own_blk h.out.own (g := g) rfl
    exact hb.ne_ hb' (by decide) e
  refine ⟨⟨?_, fun p hp => ?_⟩, ?_, h.len, h.bel.trans (hc.below h.bel.size (fun i hi => by omega))⟩
  · rw [List.length_set, ← ansFlat_set P j a u 0 hP]
    exact own_set h.out.own _
  · have hmem : p ∈ P ∨ p = ({ a with n := 0 }, u) := by
      rcases List.mem_or_eq_of_mem_set hp with h | h
      · exact Or.inl h
      · exact Or.inr h
    rcases hmem with hp | rfl
    · obtain ⟨LA, lc, e, hs⟩ := h.out.lists p hp
      exact ⟨LA, lc, e, hs.row hc h3⟩
    · obtain ⟨LA, lc, e, hs⟩ := h.out.lists (a, u) (List.mem_of_getElem? hP)
      exact ⟨LA, lc, e, hs.row hc h3⟩
  · rw [List.map_set, h.eq, List.take_add_one, hF, List.drop_eq_getElem_cons h1]
    have hlF := h.len
    rw [List.set_append, if_neg (by rw [List.length_take]; omega), List.length_take, show j - min j F.length = 0 by omega, List.set_cons_zero]
    simp

theorem fixA_ok {s : StepD} {a : AnsD} (h : ¬ (s.what = 1 ∧ a.ok = false)) : fixA s a = a := if_neg h
theorem fixA_no {s : StepD} {a : AnsD} (h : s.what = 1) (h2 : a.ok = false) : fixA s a = { a with n := 0 } := if_pos ⟨h, h2⟩

theorem fixes_at {S : List StepD} {L : List AnsD} {j : Nat} {s : StepD} {a : AnsD} (hs : S[j]? = some s) (ha : L[j]? = some a) : (fixes S L)[j]? = some (fixA s a) := by
  unfold fixes
  rw [List.getElem?_zipWith, hs, ha]

theorem fixes_len {S : List StepD} {L : List AnsD} (h : S.length = L.length) : (fixes S L).length = L.length := by
  unfold fixes
  rw [List.length_zipWith, h, Nat.min_self]

/-- 'append(v, x)' onto a row of the call's own, as a step; it says where the row lies. -/
theorem step_appendB {w : World} {ops : Array Oper} {o : Oper} {a : Act} {K : Act → World → Prop} {Q : Exit → Act → World → Prop} {E : Prop} (hgd : o.guard = none) (s x : Operand) (t : TypeId)
    (ho : o.op = .call { callee := .builtin .append, args := #[s, x], argTypes := #[t, t] })
    (base : Nat) (e : TypeId) (i : TypeInfo) (z : Value) (size bytes : Nat) (ht : Try.prog.underlying t = some (.slice e)) (hi : Try.prog.info? e = some i) (hz : i.zero = some z) (hs : i.size = size) (hby : i.bytes = bytes) (hzs : z.cells.size = size) (hsp : 0 < size)
    (v : Value) (hsv : a.eval s = v) (n : Nat) (xs : List Value) (hown : w.ownsRow base e size v n xs) (hbase : base ≤ w.heap.size) (ad : Addr) (m c : Nat) (ys : List Value) (hxv : a.eval x = .slice (some ad) m c) (hl : ys.length = m * size) (hr : ∀ j u, ys[j]? = some u → w.cell? (ad.add j) = some u) (h1 : ∀ u ∈ ys, u.oneCell' = true) (hm : n + m ≤ maxLen) (hbytes : (n + m) * bytes ≤ 140737488355328)
    (h : ∀ v' w', w'.ownsRow base e size v' (n + m) (xs ++ ys) → Chg (fun g => v.ownBlock = some g) w w' → (v'.ownBlock = v.ownBlock ∨ v'.ownBlock = some w.heap.size) → K (a.put o.dst v') w') :
    if Region.wanted o (yielded ops a.tmps) = true then Oper.wp Try.prog o a w K Q else E := by
  have hw : Region.wanted o (yielded ops a.tmps) = true := by simp [Region.wanted, hgd]
  rw [if_pos hw]
  obtain ⟨v', w', h2, h3, h4, _, h5⟩ := run_append_own_at (P := Try.prog) w base t o.type e i z size bytes ht hi hz hs hby hzs hsp v n xs hown ad m c ys hl hr h1 hm hbytes hbase
  unfold Oper.wp execOp
  simp only [ho, resolve, invoke, builtin, Sem.run_bind, Sem.run_pure, Result.andThen_ok, List.map_toArray, List.map_cons, List.map_nil, hsv, hxv, h2]
  exact h v' w' h3 (Chg.ofGrown (S := fun g => v.ownBlock = some g) h4 (fun g hg _ => hg)) h5

theorem four_one {a : AnsD} {A : Option Addr} {n c : Nat} : ∀ u ∈ [Value.int .i64 a.n, .bool a.ok, .slice A n c, .bool a.panicked], u.oneCell' = true := by
  intro u hu
  simp at hu
  rcases hu with rfl | rfl | rfl | rfl <;> rfl

theorem fm_ans {md : Int} {S : List StepD} {wr : World} {g j : Nat} {v : Value} {A0 A1 : Option Addr} {c0 c1 : Nat} {x y : Two} {s : StepD} {a : AnsD} (h : MV md S wr g j v A0 A1 c0 c1 x) (hsp : specM x s = (y, a, true)) : ((stpF md) (stF (stpF md) ([], []) (S.take j)) s).2 = some a := by
  have he := specM_eq (md := md) h.ok.1.1 h.ok.2.1 (s := s) (by rw [hsp])
  rw [hsp] at he
  rw [← h.eq]
  show some (fixA s (stepM md x s).2) = some a
  rw [← he.2]

theorem own_ne {w : World} {base n g : Nat} {v : Value} {xs : List Value} {cs : Array Value} (ho : w.ownsRow base 31 4 v n xs) (hm : Blk w g 49 cs) : ∀ i, v.ownBlock = some i → ¬ i = g := by
  rintro i hi rfl
  obtain ⟨cs', hb⟩ := own_blk ho hi
  exact hb.ne_ hm (by decide) rfl

/-- One more answer, the variable's store ahead of it. -/
theorem fm_next {md : Int} {S : List StepD} {w wc cur w6 : World} {g j : Nat} {v v' : Value} {P : List (AnsD × Value)} {s : StepD} {a : AnsD} {RA : Option Addr} {rc : Nat} {cs : Array Value}
    (h : LawI (stpF md) (fun _ _ => True) ([], []) S w wc j v P) (hg : Chg (fun i => i = g) wc cur) (hm : Blk wc g 49 cs) (hwg : w.heap.size ≤ g) (ht : S.take (j + 1) = S.take j ++ [s]) (hf : ((stpF md) (stF (stpF md) ([], []) (S.take j)) s).2 = some a)
    (hs : SliceIs wc (Row3 wc) RA a.list.length rc a.list) (ho : w6.ownsRow w.heap.size 31 4 v' (P.length + 1) (ansFlat P ++ [.int .i64 a.n, .bool a.ok, .slice RA a.list.length rc, .bool a.panicked])) (hc : Chg (fun i => v.ownBlock = some i) cur w6) :
    LawI (stpF md) (fun _ _ => True) ([], []) S w w6 (j + 1) v' (P ++ [(a, .slice RA a.list.length rc)]) := by
  have h3 : ∀ i cs, Blk wc i 3 cs → ¬ i = g := fun i cs hb e => hb.ne_ hm (by decide) e
  have h1 := h.chgT hg (own_ne h.want.own hm) h3 (fun i hi => by omega)
  exact h1.step ht hf trivial (Below.refl _ _) ((hs.row hg h3).more (fun _ _ h => Or.inr h)) ho hc
end Go.Proofs.Ytammpllfmbmdmaa
