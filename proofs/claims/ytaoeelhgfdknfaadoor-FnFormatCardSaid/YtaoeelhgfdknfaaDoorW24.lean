/- A buffer of bytes beside a version's box: the appends of one byte and of a text, at the walk and in a region that draws its order. Under sizes alone. -/
import Derived.Test.YtaoeelhgfdknfaaDoorCommon
import Derived.OwnWalk
import Derived.Test.YtaoeelhgfdknfaaDoorSh3
import Derived.Lib.AppendStr
import Derived.Deep.RegionLaw
namespace Go.Proofs.YtaoeelhgfdknfaaDoor
open Go.RowKit

structure Buf (B g : Nat) (cs : Array Value) (v : Value) (xs : List Value) (W0 w : World) : Prop where
  own : w.ownsRow B 5 1 v xs.length xs
  bel : Below B W0 w
  le : B ≤ w.heap.size
  blk : Blk w g 40 cs
  tab : Lib.TabBelow Tryd.prog B w "internal/strconv.uint64pow10" .u64 Lib.pow10Tab
  some_ : v ≠ .slice none 0 0

section
variable {B g : Nat} {cs : Array Value} {v v' : Value} {xs xs' : List Value} {W0 w w' : World}

theorem Buf.grown (h : Buf B g cs v xs W0 w) (ho : w'.ownsRow B 5 1 v' xs'.length xs') (hg : w.grownBy w' v.ownBlock) (hn : v' ≠ .slice none 0 0) : Buf B g cs v' xs' W0 w' := by
  have hb : Below B w w' := (Below.refl _ _).grown hg h.le (fun k hk => (h.own.lt k hk).1)
  refine ⟨ho, h.bel.trans hb, Nat.le_trans h.le hg.size, ?_, h.tab.on hb, hn⟩
  refine (hg.block g h.blk.lt ?_).trans h.blk
  intro e
  rcases h.own.2 with ⟨rfl, _⟩ | ⟨g', cap, cur, rfl, _, hg', _⟩
  · simp [Value.ownBlock] at e
  · simp [Value.ownBlock] at e
    subst e
    have h2 := h.blk
    unfold Blk at h2
    rw [hg'] at h2
    simp at h2

theorem Buf.alloc (h : Buf B g cs v xs W0 w) (o : Obj) : Buf B g cs v xs W0 (w.alloc o) :=
  ⟨h.own.alloc o, h.bel.alloc h.le o, Nat.le_trans h.le ((Below.refl 0 w).alloc (Nat.zero_le _) o).size, h.blk.alloc o, h.tab.on ((Below.refl _ _).alloc h.le o), h.some_⟩

theorem Buf.drewN (h : Buf B g cs v xs W0 w) (q : Nat) : Buf B g cs v xs W0 (w.drewN q) :=
  ⟨h.own, ⟨h.bel.os, h.bel.tape, h.bel.output, h.bel.size, h.bel.block⟩, h.le, h.blk, h.tab.on ⟨rfl, rfl, rfl, Nat.le_refl _, fun _ _ => rfl⟩, h.some_⟩

theorem Buf.drew (h : Buf B g cs v xs W0 w) : Buf B g cs v xs W0 w.drew := h.drewN 1

theorem Buf.form (h : Buf B g cs v xs W0 w) : ∃ r cap, v = .slice (some ⟨r, 0, none⟩) xs.length cap := by
  rcases h.own.2 with ⟨h1, _⟩ | ⟨r, cap, _, h1, _⟩
  · exact absurd h1 h.some_
  · exact ⟨r, cap, h1⟩

theorem info5u : (Tryd.prog.info? 5).map (fun i => (i.zero, i.size, i.bytes)) = some (some (.int .u8 0), 1, 1) := by kernel_rfl

/-- 'append(b, c)', in the run. -/
theorem Buf.byte (h : Buf B g cs v xs W0 w) (c : Int) (hlen : xs.length + 1 ≤ 140737488355328) :
    ∃ v' w', (Builtin.append_ #[64, 64] 64 #[v, .slice (some ⟨w.heap.size, 0, none⟩) 1 1]).run Tryd.prog (w.alloc (.cells #[.int .u8 c] 5)) = .ok v' w' ∧ Buf B g cs v' (xs ++ [.int .u8 c]) W0 w' := by
  obtain ⟨i, hi, hz, hs, hb⟩ := info_parts info5u
  have hA := h.alloc (.cells #[.int .u8 c] 5)
  obtain ⟨v', w', hr, ho, hg, hnil⟩ := run_append_own (P := Tryd.prog) (w.alloc (.cells #[.int .u8 c] 5)) B 64 64 5 i (.int .u8 0) 1 1 Tryd.underlying64 hi hz hs hb rfl (by decide) v xs.length xs hA.own ⟨w.heap.size, 0, none⟩ 1 1 [.int .u8 c] rfl (by
    intro j u hj
    match j, hj with
    | 0, hj => simp at hj; subst hj; simp [Addr.add]
    | (j + 1), hj => simp at hj) (by intro u hu; simp at hu; subst hu; rfl) (by unfold maxLen; omega) (by omega) hA.le
  refine ⟨v', w', hr, hA.grown (by simpa using ho) hg ?_⟩
  intro e
  exact hA.some_ (hnil.1 e).1

/-- 'append(b, s...)', in the run. -/
theorem Buf.text (h : Buf B g cs v xs W0 w) (s : ByteArray) (hlen : xs.length + s.size ≤ 140737488355328) :
    ∃ v' w', (Builtin.append_ #[64, 9] 64 #[v, .string s]).run Tryd.prog w = .ok v' w' ∧ Buf B g cs v' (xs ++ Lib.strCells s) W0 w' := by
  obtain ⟨i, hi, hz, hs, hb⟩ := info_parts info5u
  obtain ⟨v', w', hr, ho, hg, hnil⟩ := Lib.run_append_own_string (P := Tryd.prog) w B 64 9 64 5 i Tryd.underlying64 Tryd.underlying9 hi hz hs hb v xs.length xs h.own s (by unfold maxLen; omega) hlen h.le
  refine ⟨v', w', hr, h.grown (by simpa [Lib.strCells_length] using ho) hg ?_⟩
  intro e
  exact h.some_ (hnil.1 e).1
end

section
variable {ops : Array Oper} {rest : List Oper} {o : Oper} {a : Act} {K : Act → World → Prop} {Q : Exit → Act → World → Prop} {E : Prop} {B g : Nat} {cs : Array Value} {v : Value} {xs : List Value} {W0 w : World}

theorem wpList_byte (hgd : o.guard = none) (hty : o.type = 64) (s x : Operand) (ho : o.op = .call { callee := .builtin .append, args := #[s, x], argTypes := #[64, 64] })
    (h : Buf B g cs v xs W0 w) (c : Int) (hs : a.eval s = v) (hx : a.eval x = .slice (some ⟨w.heap.size, 0, none⟩) 1 1) (hlen : xs.length + 1 ≤ 140737488355328)
    (hk : ∀ v' w', Buf B g cs v' (xs ++ [.int .u8 c]) W0 w' → wpList Tryd.prog ops Q rest (a.put o.dst v') w') : wpList Tryd.prog ops Q (o :: rest) a (w.alloc (.cells #[.int .u8 c] 5)) := by
  refine wpList_plain hgd fun K hK => ?_
  obtain ⟨v', w', hr, hb⟩ := h.byte c hlen
  rw [← hty] at hr
  unfold Oper.wp execOp
  rw [hty] at hr
  simp only [ho, hty, resolve, invoke, builtin, Sem.run_bind, Sem.run_pure, Result.andThen_ok, List.map_toArray, List.map_cons, List.map_nil, hs, hx, hr]
  exact hK _ _ (hk v' w' hb)

theorem step_byte (hgd : o.guard = none) (hty : o.type = 64) (s x : Operand) (ho : o.op = .call { callee := .builtin .append, args := #[s, x], argTypes := #[64, 64] })
    (h : Buf B g cs v xs W0 w) (c : Int) {W : World} (hW : W = w.alloc (.cells #[.int .u8 c] 5)) (hs : a.eval s = v) (hx : a.eval x = .slice (some ⟨w.heap.size, 0, none⟩) 1 1) (hlen : xs.length + 1 ≤ 140737488355328)
    (hk : ∀ v' w', Buf B g cs v' (xs ++ [.int .u8 c]) W0 w' → K (a.put o.dst v') w') : if Region.wanted o (yielded ops a.tmps) = true then Oper.wp Tryd.prog o a W K Q else E := by
  subst hW
  have hw : Region.wanted o (yielded ops a.tmps) = true := by simp [Region.wanted, hgd]
  rw [if_pos hw]
  obtain ⟨v', w', hr, hb⟩ := h.byte c hlen
  unfold Oper.wp execOp
  simp only [ho, hty, resolve, invoke, builtin, Sem.run_bind, Sem.run_pure, Result.andThen_ok, List.map_toArray, List.map_cons, List.map_nil, hs, hx, hr]
  exact hk v' w' hb

theorem step_text (hgd : o.guard = none) (hty : o.type = 64) (sl x : Operand) (ho : o.op = .call { callee := .builtin .append, args := #[sl, x], argTypes := #[64, 9] })
    (h : Buf B g cs v xs W0 w) (s : ByteArray) (hs : a.eval sl = v) (hx : a.eval x = .string s) (hlen : xs.length + s.size ≤ 140737488355328)
    (hk : ∀ v' w', Buf B g cs v' (xs ++ Lib.strCells s) W0 w' → K (a.put o.dst v') w') : if Region.wanted o (yielded ops a.tmps) = true then Oper.wp Tryd.prog o a w K Q else E := by
  have hw : Region.wanted o (yielded ops a.tmps) = true := by simp [Region.wanted, hgd]
  rw [if_pos hw]
  obtain ⟨v', w', hr, hb⟩ := h.text s hlen
  unfold Oper.wp execOp
  simp only [ho, hty, resolve, invoke, builtin, Sem.run_bind, Sem.run_pure, Result.andThen_ok, List.map_toArray, List.map_cons, List.map_nil, hs, hx, hr]
  exact hk v' w' hb
end

end Go.Proofs.YtaoeelhgfdknfaaDoor
