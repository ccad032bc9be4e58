/- slices.Insert of one edge. Under sizes alone. -/
import Derived.Test.YtjekaagjgamfkaaDoorTm
import Derived.Lib.AppendZerosOnto
import Derived.Lib.Overlaps
import Derived.Deep.RegionLaw
import Derived.Maps.AppendAt
import Derived.Laws.CopyOwn
namespace Go.Proofs.YtjekaagjgamfkaaDoor
open Go.RowKit T

theorem info64 : (Tryd.prog.info? 64).map (fun i => (i.zero, i.size, i.bytes)) = some (some (.agg #[.string ⟨#[]⟩, .pointer none, .pointer none]), 3, 32) := by kernel_rfl

/-- 'copy(dst, src)' of edges, the target's block known whole. -/
theorem run_copy3 (w : World) (ty : TypeId) (g o dLen dCap : Nat) (a : Addr) (sLen sCap : Nat) (cur : Array Value) (t : TypeId) (cs : List Value) (hg : Blk w g t cur) (hn : cs.length = Nat.min sLen dLen * 3)
    (hsrc : ∀ j v, cs[j]? = some v → w.cell? (a.add j) = some v) (hfit : o + cs.length ≤ cur.size) (h1 : ∀ v ∈ cs, v.oneCell' = true) :
    (Builtin.copy_ #[41, 41] ty #[.slice (some ⟨g, o, none⟩) dLen dCap, .slice (some a) sLen sCap]).run Tryd.prog w =
      .ok (goInt (Nat.min sLen dLen)) (w.setRow g (cur.toList.take o ++ cs ++ cur.toList.drop (o + cs.length)).toArray) := by
  have hl := run_loadCells_list (P := Tryd.prog) w a cs hsrc
  have hst := run_storeCells_at Tryd.prog g o t cs 0 cur w hg (by simpa using hfit) h1
  obtain ⟨i, hi, _, hsz, _⟩ := info_parts info64
  simp [Builtin.copy_, run_underlying Tryd.underlying41, Builtin.lenOf, Builtin.firstCells, sizeOf, typeInfo, hi, hsz, ← hn, hl, hst]

theorem setRow_chg (w : World) (g : Nat) (cs : Array Value) : Chg (fun i => i = g) w (w.setRow g cs) :=
  ⟨rfl, rfl, rfl, by simp [World.setRow], fun k _ hk => setRow_other w g k cs hk⟩

theorem wpList_copy3 {w : World} {ops : Array Oper} {rest : List Oper} {o : Oper} {a : Act} {Q : Exit → Act → World → Prop} (hgd : o.guard = none) (d s : Operand)
    (ho : o.op = .call { callee := .builtin .copy, args := #[d, s], argTypes := #[41, 41] }) (g off dLen dCap : Nat) (ad : Addr) (sLen sCap : Nat) (hd : a.eval d = .slice (some ⟨g, off, none⟩) dLen dCap) (hs : a.eval s = .slice (some ad) sLen sCap)
    (cur : Array Value) (t : TypeId) (cs : List Value) (hg : Blk w g t cur) (hn : cs.length = Nat.min sLen dLen * 3) (hsrc : ∀ j v, cs[j]? = some v → w.cell? (ad.add j) = some v) (hfit : off + cs.length ≤ cur.size) (h1 : ∀ v ∈ cs, v.oneCell' = true)
    (h : ∀ w', Hid (Blk w' g t (splice cur.toList off cs).toArray) → Hid (Chg (fun i => i = g) w w') → w'.heap.size = w.heap.size → wpList Tryd.prog ops Q rest (a.put o.dst (goInt (Nat.min sLen dLen))) w') : wpList Tryd.prog ops Q (o :: rest) a w := by
  refine wpList_plain hgd fun K hK => ?_
  have hrun := run_copy3 w o.type g off dLen dCap ad sLen sCap cur t cs hg hn hsrc hfit h1
  unfold Oper.wp
  simp [execOp, ho, resolve, invoke, builtin, hd, hs, hrun, Result.andThen]
  exact hK _ _ (h _ (show Blk _ _ _ _ by simpa [splice, Blk] using setRow_heap w g _ _ t _ hg) (setRow_chg w g _) (by simp [World.setRow]))

theorem step_copy3 {w : World} {ops : Array Oper} {o : Oper} {a : Act} {K : Act → World → Prop} {Q : Exit → Act → World → Prop} {E : Prop} (hgd : o.guard = none) (d s : Operand)
    (ho : o.op = .call { callee := .builtin .copy, args := #[d, s], argTypes := #[41, 41] }) (g off dLen dCap : Nat) (ad : Addr) (sLen sCap : Nat) (hd : a.eval d = .slice (some ⟨g, off, none⟩) dLen dCap) (hs : a.eval s = .slice (some ad) sLen sCap)
    (cur : Array Value) (t : TypeId) (cs : List Value) (hg : Blk w g t cur) (hn : cs.length = Nat.min sLen dLen * 3) (hsrc : ∀ j v, cs[j]? = some v → w.cell? (ad.add j) = some v) (hfit : off + cs.length ≤ cur.size) (h1 : ∀ v ∈ cs, v.oneCell' = true)
    (h : ∀ w', Hid (Blk w' g t (splice cur.toList off cs).toArray) → Hid (Chg (fun i => i = g) w w') → w'.heap.size = w.heap.size → K (a.put o.dst (goInt (Nat.min sLen dLen))) w') :
    if Region.wanted o (yielded ops a.tmps) = true then Oper.wp Tryd.prog o a w K Q else E := by
  have hw : Region.wanted o (yielded ops a.tmps) = true := by simp [Region.wanted, hgd]
  rw [if_pos hw]
  have hrun := run_copy3 w o.type g off dLen dCap ad sLen sCap cur t cs hg hn hsrc hfit h1
  unfold Oper.wp
  simp [execOp, ho, resolve, invoke, builtin, hd, hs, hrun, Result.andThen]
  exact h _ (show Blk _ _ _ _ by simpa [splice, Blk] using setRow_heap w g _ _ t _ hg) (setRow_chg w g _) (by simp [World.setRow])

/-- 'append(v, xs...)' onto a row of the call's own, in a plain region and as a step. -/
theorem wpList_appendN {w : World} {ops : Array Oper} {rest : List Oper} {o : Oper} {a : Act} {Q : Exit → Act → World → Prop} (hgd : o.guard = none) (s x : Operand) (t : TypeId)
    (ho : o.op = .call { callee := .builtin .append, args := #[s, x], argTypes := #[t, t] })
    (base : Nat) (e : TypeId) (i : TypeInfo) (z : Value) (size bytes : Nat) (ht : Tryd.prog.underlying t = some (.slice e)) (hi : Tryd.prog.info? e = some i) (hz : i.zero = some z) (hs : i.size = size) (hby : i.bytes = bytes) (hzs : z.cells.size = size) (hsp : 0 < size)
    (v : Value) (hsv : a.eval s = v) (n : Nat) (xs : List Value) (hown : w.ownsRow base e size v n xs) (hbase : base ≤ w.heap.size) (ad : Addr) (m c : Nat) (ys : List Value) (hxv : a.eval x = .slice (some ad) m c) (hl : ys.length = m * size) (hr : ∀ j u, ys[j]? = some u → w.cell? (ad.add j) = some u) (h1 : ∀ u ∈ ys, u.oneCell' = true) (hm : n + m ≤ maxLen) (hbytes : (n + m) * bytes ≤ 140737488355328)
    (h : ∀ v' w', Hid (w'.ownsRow base e size v' (n + m) (xs ++ ys)) → Hid (Chg (fun g => v.ownBlock = some g) w w') → Hid (v'.ownBlock = v.ownBlock ∨ v'.ownBlock = some w.heap.size) → wpList Tryd.prog ops Q rest (a.put o.dst v') w') : wpList Tryd.prog ops Q (o :: rest) a w := by
  refine wpList_plain hgd fun K hK => ?_
  obtain ⟨v', w', h2, h3, h4, _, h5⟩ := run_append_own_at (P := Tryd.prog) w base t o.type e i z size bytes ht hi hz hs hby hzs hsp v n xs hown ad m c ys hl hr h1 hm hbytes hbase
  unfold Oper.wp execOp
  simp only [ho, resolve, invoke, builtin, Sem.run_bind, Sem.run_pure, Result.andThen_ok, List.map_toArray, List.map_cons, List.map_nil, hsv, hxv, h2]
  exact hK _ _ (h v' w' h3 (Chg.ofGrown (S := fun g => v.ownBlock = some g) h4 (fun g hg _ => hg)) h5)
theorem step_appendN {w : World} {ops : Array Oper} {o : Oper} {a : Act} {K : Act → World → Prop} {Q : Exit → Act → World → Prop} {E : Prop} (hgd : o.guard = none) (s x : Operand) (t : TypeId)
    (ho : o.op = .call { callee := .builtin .append, args := #[s, x], argTypes := #[t, t] })
    (base : Nat) (e : TypeId) (i : TypeInfo) (z : Value) (size bytes : Nat) (ht : Tryd.prog.underlying t = some (.slice e)) (hi : Tryd.prog.info? e = some i) (hz : i.zero = some z) (hs : i.size = size) (hby : i.bytes = bytes) (hzs : z.cells.size = size) (hsp : 0 < size)
    (v : Value) (hsv : a.eval s = v) (n : Nat) (xs : List Value) (hown : w.ownsRow base e size v n xs) (hbase : base ≤ w.heap.size) (ad : Addr) (m c : Nat) (ys : List Value) (hxv : a.eval x = .slice (some ad) m c) (hl : ys.length = m * size) (hr : ∀ j u, ys[j]? = some u → w.cell? (ad.add j) = some u) (h1 : ∀ u ∈ ys, u.oneCell' = true) (hm : n + m ≤ maxLen) (hbytes : (n + m) * bytes ≤ 140737488355328)
    (h : ∀ v' w', Hid (w'.ownsRow base e size v' (n + m) (xs ++ ys)) → Hid (Chg (fun g => v.ownBlock = some g) w w') → Hid (v'.ownBlock = v.ownBlock ∨ v'.ownBlock = some w.heap.size) → K (a.put o.dst v') w') :
    if Region.wanted o (yielded ops a.tmps) = true then Oper.wp Tryd.prog o a w K Q else E := by
  have hw : Region.wanted o (yielded ops a.tmps) = true := by simp [Region.wanted, hgd]
  rw [if_pos hw]
  obtain ⟨v', w', h2, h3, h4, _, h5⟩ := run_append_own_at (P := Tryd.prog) w base t o.type e i z size bytes ht hi hz hs hby hzs hsp v n xs hown ad m c ys hl hr h1 hm hbytes hbase
  unfold Oper.wp execOp
  simp only [ho, resolve, invoke, builtin, Sem.run_bind, Sem.run_pure, Result.andThen_ok, List.map_toArray, List.map_cons, List.map_nil, hsv, hxv, h2]
  exact h v' w' h3 (Chg.ofGrown (S := fun g => v.ownBlock = some g) h4 (fun g hg _ => hg)) h5
theorem news_blk {w : World} {g t : Nat} {cs : Array Value} (h : Blk w g t cs) : ∀ j u, cs.toList[j]? = some u → w.cell? ((⟨g, 0, none⟩ : Addr).add j) = some u := fun j u hj => by
  rw [add_plain, Nat.zero_add, h.cell]
  rw [Array.getElem?_toList] at hj
  exact hj

/-- What comes back: the row with the edge at its place. -/
def InsOut (w : World) (B : Nat) (v : Value) (es : List Ed) (r : Ending) (w' : World) : Prop :=
  ∃ v', r = .returned v' ∧ w'.ownsRow B 64 3 v' es.length (edf es) ∧ Chg (fun g => v.ownBlock = some g) w w' ∧ (v'.ownBlock = v.ownBlock ∨ ∃ g, v'.ownBlock = some g ∧ w.heap.size ≤ g)

set_option maxHeartbeats 1000000 in
set_option maxRecDepth 100000 in
theorem ins_end (B : Nat) (A : Option Addr) (c : Nat) (v : Value) (es : List Ed) (e : Ed) (vb : Nat) (w : World) (hv : v = .slice A es.length c) (ho : w.ownsRow B 64 3 v es.length (edf es)) (hb : Blk w vb 64 (edc e).toArray) (hB : B ≤ w.heap.size) (hn : es.length ≤ 256) :
    Calls Tryd.prog 26 #[.slice A es.length c, .int .i64 (es.length : Int), .slice (some ⟨vb, 0, none⟩) 1 1] w (InsOut w B v (es ++ [e])) := by
  obtain ⟨i0, hi, hz0, hz1, hz2⟩ := info_parts info64
  have HO := hide ho
  have HV := hide hb
  have HE := hide hv.symm
  clear ho hb hv
  go_enter Tryd.func26, Tryd.ntmps26
  go_wp2_with
    (at_builtin
     go_must (refine wpList_appendN rfl _ _ 41 rfl B 64 i0 _ 3 32 Tryd.underlying41 hi hz0 hz1 hz2 rfl (by decide) v HE.out es.length (edf es) HO.out hB ⟨vb, 0, none⟩ 1 1 (edc e) rfl rfl (news_blk HV.out) (edc_one e) (by unfold maxLen; omega) (by omega) ?_)
     intro v1 w1 HO1 HC1 HV1)
  all_goals
    go_ret
    refine ⟨v1, rfl, ?_, HC1.out, HV1.out.imp id (fun h => ⟨_, h, Nat.le_refl _⟩)⟩
    have := HO1.out
    rw [edf_append, List.length_append]
    simpa [edf] using this

theorem edf_take (es : List Ed) (i : Nat) : edf (es.take i) = (edf es).take (i * 3) := by
  induction es generalizing i with
  | nil => simp [edf]
  | cons e es ih =>
    cases i with
    | zero => simp [edf]
    | succ i =>
      rw [List.take_succ_cons, edf_cons, edf_cons, ih, List.take_append, show (edc e).length = 3 from rfl, show (i + 1) * 3 - 3 = i * 3 by omega, List.take_of_length_le (l := edc e) (by show 3 ≤ _; omega)]
theorem edf_drop (es : List Ed) (i : Nat) : edf (es.drop i) = (edf es).drop (i * 3) := by
  induction es generalizing i with
  | nil => simp [edf]
  | cons e es ih =>
    cases i with
    | zero => simp [edf]
    | succ i =>
      rw [List.drop_succ_cons, edf_cons, ih, List.drop_append, show (edc e).length = 3 from rfl, show (i + 1) * 3 - 3 = i * 3 by omega, List.drop_eq_nil_of_le (show (edc e).length ≤ (i + 1) * 3 by show 3 ≤ _; omega), List.nil_append]

/-- A row of the call's own, its block known. -/
theorem own_parts {w : World} {B g n c : Nat} {es : List Ed} (h : w.ownsRow B 64 3 (.slice (some ⟨g, 0, none⟩) n c) n (edf es)) : ∃ cur, Blk w g 64 cur ∧ B ≤ g ∧ n ≤ c ∧ c ≤ maxLen ∧ cur.size = c * 3 ∧ cur.toList.take (n * 3) = edf es := by
  rcases h.2 with ⟨e, _⟩ | ⟨g', cap, cur, hv, hg, hh, hc, hm, hs, ht⟩
  · cases e
  · have h1 : g = g' ∧ c = cap := by injection hv with a _ b; injection a with a; injection a with a; exact ⟨a, b⟩
    obtain ⟨rfl, rfl⟩ := h1
    exact ⟨cur, hh, hg, hc, hm, hs, ht⟩
theorem own_mk {w : World} {B g n c : Nat} {es : List Ed} {cur : List Value} (hh : Blk w g 64 cur.toArray) (hg : B ≤ g) (hc : n ≤ c) (hm : c ≤ maxLen) (hs : cur.length = c * 3) (hl : es.length = n) (ht : cur.take (n * 3) = edf es) : w.ownsRow B 64 3 (.slice (some ⟨g, 0, none⟩) n c) n (edf es) :=
  ⟨by rw [edf_len, hl], .inr ⟨g, c, cur.toArray, rfl, hg, hh, hc, hm, by simpa using hs, by simpa using ht⟩⟩

/-- The copy of the elements from the place on by one place, then the new one at the place. -/
theorem splice_ins (cur : List Value) (es : List Ed) (e : Ed) (n i : Nat) (hl : es.length = n) (hi : i < n) (ht : cur.take (n * 3) = edf es) (hs : (n + 1) * 3 ≤ cur.length) :
    (splice (splice cur ((i + 1) * 3) (edf (es.drop i))) (i * 3) (edc e)).take ((n + 1) * 3) = edf (es.take i ++ e :: es.drop i) ∧ (splice (splice cur ((i + 1) * 3) (edf (es.drop i))) (i * 3) (edc e)).length = cur.length := by
  have hd : (edf (es.drop i)).length = (n - i) * 3 := by rw [edf_len, List.length_drop, hl]
  have he : (edc e).length = 3 := rfl
  have h0 : (splice cur ((i + 1) * 3) (edf (es.drop i))).length = cur.length := length_splice _ _ _ (by rw [hd]; omega)
  refine ⟨?_, by rw [length_splice _ _ _ (by rw [h0, he]; omega), h0]⟩
  have h1 : (splice cur ((i + 1) * 3) (edf (es.drop i))).take (i * 3) = edf (es.take i) := by
    unfold splice
    rw [List.take_append, List.take_take, List.length_take, Nat.min_eq_left (by omega : i * 3 ≤ (i + 1) * 3), Nat.min_eq_left (by omega : (i + 1) * 3 ≤ cur.length), show i * 3 - (i + 1) * 3 = 0 by omega, List.take_zero, List.append_nil, edf_take, ← ht, List.take_take, Nat.min_eq_left (by omega)]
  have h2 : (splice cur ((i + 1) * 3) (edf (es.drop i))).drop ((i + 1) * 3) = edf (es.drop i) ++ cur.drop ((n + 1) * 3) := by
    unfold splice
    rw [List.drop_append, List.length_take, Nat.min_eq_left (by omega : (i + 1) * 3 ≤ cur.length), Nat.sub_self, List.drop_zero, List.drop_eq_nil_of_le (by rw [List.length_take]; omega), List.nil_append, hd, show (i + 1) * 3 + (n - i) * 3 = (n + 1) * 3 by omega]
  have h3 : splice (splice cur ((i + 1) * 3) (edf (es.drop i))) (i * 3) (edc e) = edf (es.take i ++ e :: es.drop i) ++ cur.drop ((n + 1) * 3) := by
    rw [splice, h1, he, show i * 3 + 3 = (i + 1) * 3 by omega, h2, edf_append, edf_cons]
    simp
  rw [h3, List.take_append, edf_len]
  have h4 : (es.take i ++ e :: es.drop i).length = n + 1 := by simp; omega
  rw [h4, Nat.sub_self, List.take_zero, List.append_nil, List.take_of_length_le (by rw [edf_len, h4]; omega)]

theorem overlaps_any (w : World) (a b : Addr) (la ca lb cb : Nat) (hne : a.block ≠ b.block) (tA tB : TypeId) (kA kB : Nat) (hsa : w.shape? a.block = some (tA, kA)) (hsb : w.shape? b.block = some (tB, kB)) (hkB : kB ≠ 0) (hfa : w.frozen? a = false) (hfe : w.frozen? ⟨a.block, kA, none⟩ = false) :
    (callFunc 33 #[.slice (some a) la ca, .slice (some b) lb cb]).run Tryd.prog w = .ok (.value (.bool false)) w := by
  rw [run_callFunc_extern Tryd.func33 (by kernel_rfl) (by kernel_rfl) (by kernel_rfl) (e := Extern.SlicesOverlaps.overlaps #[41, 41] #[4]) (by kernel_rfl), Lib.run_overlaps_apart w 41 4 64 Tryd.underlying41 3 Tryd.sizeOf64 a b la ca lb cb hne tA tB kA kB hsa hsb hkB hfa hfe]
  rfl
theorem Blk.shape {w : World} {g t : Nat} {cs : Array Value} (h : Blk w g t cs) : w.shape? g = some (t, cs.size) := by
  unfold Blk at h
  simp [World.shape?, h]

set_option maxHeartbeats 2000000 in
set_option maxRecDepth 100000 in
theorem ins_shift (B g c i : Nat) (v : Value) (es : List Ed) (e : Ed) (vb n : Nat) (w : World) (hv : v = .slice (some ⟨g, 0, none⟩) n c) (hl : es.length = n) (ho : w.ownsRow B 64 3 v n (edf es)) (hb : Blk w vb 64 (edc e).toArray) (hvb : vb ≠ g) (hi : i < n) (hroom : n + 1 ≤ c) (hn : n ≤ 256) :
    Calls Tryd.prog 26 #[.slice (some ⟨g, 0, none⟩) n c, .int .i64 (i : Int), .slice (some ⟨vb, 0, none⟩) 1 1] w (InsOut w B v (es.take i ++ e :: es.drop i)) := by
  subst hv
  obtain ⟨cur, hg, hBg, hc1, hc2, hcs, hct⟩ := own_parts ho
  unfold maxLen at hc2
  have HV := hide hb
  have HG := hide hg
  have HCS := hide hcs
  have HCT := hide hct
  have HL := hide hl
  obtain ⟨P, hP⟩ : ∃ P : Ending → World → Prop, P = InsOut w B (.slice (some ⟨g, 0, none⟩) n c) (es.take i ++ e :: es.drop i) := ⟨_, rfl⟩
  rw [← hP]
  have HP := hide hP
  have hz2 : ¬ ((i : Int) = (n : Int)) := by omega
  have hz3 : ¬ ((c : Int) < (n : Int) + 1) := by omega
  have hci : ¬ (c = i) := by omega
  have hci1 : ¬ (c = i + 1) := by omega
  have hi1 : (i : Int) + 1 ≤ (n : Int) + 1 := by omega
  have hi0 : 0 ≤ (i : Int) + 1 := by omega
  have hi2 : (i : Int) ≤ (n : Int) + 1 := by omega
  have hw1 : IntKind.i64.wrap ((i : Int) + 1) = (i : Int) + 1 := by rw [IntKind.wrap_i64]; omega
  have hov : ∀ (off lb cb : Nat), (callFunc 33 #[.slice (some ⟨vb, 0, none⟩) 1 1, .slice (some ⟨g, off, none⟩) lb cb]).run Tryd.prog w = .ok (.value (.bool false)) w := fun off lb cb =>
    overlaps_any w _ _ 1 1 lb cb hvb 64 64 3 cur.size hb.shape hg.shape (by omega) (hb.frozen 0) (hb.frozen 3)
  clear ho hb hg hcs hct hP hl
  go_enter Tryd.func26, Tryd.ntmps26
  go_wp2_with (simp only [hov])
  have hdl : (edf (es.drop i)).length = (n - i) * 3 := by rw [edf_len, List.length_drop, HL.out]
  have hsrc1 : ∀ j v, (edf (es.drop i))[j]? = some v → w.drew.cell? ((⟨g, i * 3, none⟩ : Addr).add j) = some v := by
    intro j v hj
    have hjl := (List.getElem?_eq_some_iff.1 hj).1
    rw [edf_drop, List.getElem?_drop, ← HCT.out, List.getElem?_take, if_pos (by omega), Array.getElem?_toList] at hj
    rw [add_plain]
    exact (HG.out.cell _).trans hj
  have HS1 := hide hsrc1
  have HD1 := hide hdl
  clear hsrc1 hdl
  go_region_law (first | (refine step_copy3 rfl _ _ rfl g ((i + 1) * 3) (n - i) (c - (i + 1)) ⟨g, i * 3, none⟩ (n + 1 - i) (c - i) (by simp [Act.eval, Act.put]) (by simp [Act.eval, Act.put]) cur 64 (edf (es.drop i)) HG.out (by rw [HD1.out, show Nat.min (n + 1 - i) (n - i) = n - i from Nat.min_eq_right (by omega)]) HS1.out (by rw [HD1.out, HCS.out]; omega) (edf_one _) ?_; intro w1 HG1 HC1 hs1) | fail)
  have hg2 : Hid (Blk w1 vb 64 (edc e).toArray) := HV.out.chg (w := w.drew) HC1.out hvb
  have hsl : (splice cur.toList ((i + 1) * 3) (edf (es.drop i))).length = c * 3 := by
    rw [length_splice _ _ _ (by rw [HD1.out, Array.length_toList, HCS.out]; omega), Array.length_toList, HCS.out]
  have HSL := hide hsl
  clear hsl
  have hm1 : (edc e).length = Nat.min 1 (n + 1 - i) * 3 := by rw [show Nat.min 1 (n + 1 - i) = 1 from Nat.min_eq_left (by omega)]; rfl
  have hm2 : i * 3 + (edc e).length ≤ (splice cur.toList ((i + 1) * 3) (edf (es.drop i))).toArray.size := by rw [List.size_toArray, HSL.out]; show i * 3 + 3 ≤ _; omega
  have HM1 := hide hm1
  have HM2 := hide hm2
  clear hm1 hm2
  go_wp2_with
    ((with_reducible refine wpList_copy3 (o := ⟨some 82, _, _, _, _, _⟩) ?_ (.tmp 80) (.tmp 81) ?_ g (i * 3) (n + 1 - i) (c - i) ⟨vb, 0, none⟩ 1 1 ?_ ?_ _ 64 (edc e) HG1.out HM1.out (news_blk hg2.out) HM2.out (edc_one e) ?_)
     · rfl
     · rfl
     · rfl
     · rfl
     intro w2 HG2 HC2 hs2)
  rw [HP.out]
  have hC : Chg (fun i => i = g) w w2 := (((Chg.refl _ w).drew).trans HC1.out (fun _ _ h => h)).trans HC2.out (fun _ _ h => h)
  obtain ⟨h1, h2⟩ := splice_ins cur.toList es e n i HL.out hi HCT.out (by rw [Array.length_toList, HCS.out]; omega)
  have hle : (es.take i ++ e :: es.drop i).length = n + 1 := by simp [HL.out]; omega
  refine ⟨_, rfl, ?_, hC.mono (fun i _ h => by rw [h]; rfl), Or.inl rfl⟩
  rw [hle]
  exact own_mk HG2.out hBg hroom (by unfold maxLen; exact hc2) (by rw [h2, Array.length_toList, HCS.out]) hle (by rw [← h1])

theorem splice_new (ROW : List Value) (es : List Ed) (e : Ed) (n i : Nat) (hl : es.length = n) (hi : i < n) (ht : ROW.take (i * 3) = edf (es.take i)) (hs : (n + 1) * 3 ≤ ROW.length) :
    (splice (splice ROW (i * 3) (edc e)) ((i + 1) * 3) (edf (es.drop i))).take ((n + 1) * 3) = edf (es.take i ++ e :: es.drop i) ∧ (splice (splice ROW (i * 3) (edc e)) ((i + 1) * 3) (edf (es.drop i))).length = ROW.length := by
  have hd : (edf (es.drop i)).length = (n - i) * 3 := by rw [edf_len, List.length_drop, hl]
  have he : (edc e).length = 3 := rfl
  have h0 : (splice ROW (i * 3) (edc e)).length = ROW.length := length_splice _ _ _ (by rw [he]; omega)
  refine ⟨?_, by rw [length_splice _ _ _ (by rw [h0, hd]; omega), h0]⟩
  have h1 : (splice ROW (i * 3) (edc e)).take ((i + 1) * 3) = edf (es.take i) ++ edc e := by
    unfold splice
    rw [ht, ← List.append_assoc, List.take_append, List.take_of_length_le (by rw [List.length_append, edf_len, he, List.length_take]; omega)]
    have : (i + 1) * 3 - (edf (es.take i) ++ edc e).length = 0 := by rw [List.length_append, edf_len, he, List.length_take]; omega
    rw [this, List.take_zero, List.append_nil]
  have h3 : splice (splice ROW (i * 3) (edc e)) ((i + 1) * 3) (edf (es.drop i)) = edf (es.take i ++ e :: es.drop i) ++ (splice ROW (i * 3) (edc e)).drop ((n + 1) * 3) := by
    rw [splice, h1, hd, show (i + 1) * 3 + (n - i) * 3 = (n + 1) * 3 by omega, edf_append, edf_cons]
    simp
  have h4 : (es.take i ++ e :: es.drop i).length = n + 1 := by simp; omega
  rw [h3, List.take_append, edf_len, h4, Nat.sub_self, List.take_zero, List.append_nil, List.take_of_length_le (by rw [edf_len, h4]; omega)]

set_option maxHeartbeats 2000000 in
set_option maxRecDepth 100000 in
theorem ins_grow (B g c i : Nat) (v : Value) (es : List Ed) (e : Ed) (vb n : Nat) (w : World) (hv : v = .slice (some ⟨g, 0, none⟩) n c) (hl : es.length = n) (ho : w.ownsRow B 64 3 v n (edf es)) (hb : Blk w vb 64 (edc e).toArray) (hB : B ≤ w.heap.size) (hi : i < n) (hroom : c < n + 1) (hn : n ≤ 256) :
    Calls Tryd.prog 26 #[.slice (some ⟨g, 0, none⟩) n c, .int .i64 (i : Int), .slice (some ⟨vb, 0, none⟩) 1 1] w (InsOut w B v (es.take i ++ e :: es.drop i)) := by
  obtain ⟨i0, hi64, hz0, hz1, hz2⟩ := info_parts info64
  subst hv
  obtain ⟨cur, hg, hBg, hc1, hc2, hcs, hct⟩ := own_parts ho
  have hcn : n = c := by omega
  subst hcn
  unfold maxLen at hc2
  obtain ⟨G, hG⟩ : ∃ G, G = grownCap w (n + 1) n 64 := ⟨_, rfl⟩
  have hG1 : n + 1 ≤ G := by rw [hG]; exact grownCap_ge w _ _ _
  have hG2 : G ≤ maxLen := by rw [hG]; exact grownCap_le_maxLen w (n + 1) n 64 (by unfold maxLen; omega)
  obtain ⟨ROW, hROW⟩ : ∃ ROW : List Value, ROW = ((edf (es.take i)).toArray ++ Builtin.zeroCells (Value.agg #[.string ⟨#[]⟩, .pointer none, .pointer none]).cells (n + 1 - i) ++ Builtin.zeroCells (Value.agg #[.string ⟨#[]⟩, .pointer none, .pointer none]).cells (G - (n + 1))).toList := ⟨_, rfl⟩
  have hRl : ROW.length = G * 3 := by
    have e3 : (Value.agg #[.string ⟨#[]⟩, .pointer none, .pointer none]).cells.size = 3 := rfl
    rw [hROW, Array.length_toList, Array.size_append, Array.size_append, size_zeroCells, size_zeroCells, e3, List.size_toArray, edf_len, List.length_take, hl]
    omega
  have hRt : ROW.take (i * 3) = edf (es.take i) := by
    rw [hROW, Array.toList_append, Array.toList_append, List.append_assoc]
    exact List.take_left' (by rw [edf_len, List.length_take, hl]; omega)
  have hik : i + (n + 1 - i) = n + 1 := by omega
  have hold : (Builtin.firstCells i0.size i (.slice (some ⟨g, 0, none⟩) i n)).run Tryd.prog w.drew = .ok (edf (es.take i)).toArray w.drew := by
    rw [hz1]
    exact run_firstCells_some w.drew 3 i ⟨g, 0, none⟩ i n (edf (es.take i)) (by rw [edf_len, List.length_take, hl]; omega) (fun j v hj => by
      have hjl := (List.getElem?_eq_some_iff.1 hj).1
      rw [edf_len, List.length_take] at hjl
      rw [edf_take, List.getElem?_take, if_pos (by omega), ← hct, List.getElem?_take, if_pos (by omega), Array.getElem?_toList] at hj
      rw [add_plain, Nat.zero_add]
      exact (hg.cell _).trans hj)
  have hrz : ∀ ty, (Builtin.append_ #[41, 3] ty #[.slice (some ⟨g, 0, none⟩) i n, .int .i64 ((n : Int) + 1 - (i : Int))]).run Tryd.prog w =
      .ok (.slice (some ⟨w.heap.size, 0, none⟩) (n + 1) G) (w.drew.alloc (.cells ROW.toArray 64)) := fun ty => by
    have h := Lib.run_append_grow_zeros w 41 3 ty 64 i0 _ .i64 .i64 Tryd.underlying41 Tryd.underlying3 hi64 hz0 (some ⟨g, 0, none⟩) i n (edf (es.take i)) hold (n + 1 - i) (by omega) (by omega) (by omega) (by omega) (by rw [hz2]; omega) (by rw [hz2, hik]; exact growslice_fits hroom (by omega))
    rw [hik, ← hG] at h
    rw [show (n : Int) + 1 - (i : Int) = ((n + 1 - i : Nat) : Int) by omega, h, hROW, Array.toArray_toList]
  obtain ⟨W1, hW1⟩ : ∃ W1, W1 = w.drew.alloc (.cells ROW.toArray 64) := ⟨_, rfl⟩
  have hN : Blk W1 w.heap.size 64 ROW.toArray := by rw [hW1]; exact Blk.new w.drew 64 ROW.toArray
  have hC1 : Chg (fun _ => False) w W1 := by rw [hW1]; exact ((Chg.refl _ w).drew).alloc _
  have hs1 : W1.heap.size = w.heap.size + 1 := by rw [hW1]; simp
  rw [← hW1] at hrz
  have HV := hide (hb.chg hC1 (fun h => h))
  have HG := hide (hg.chg hC1 (fun h => h))
  have HN := hide hN
  have HC := hide hC1
  have HCT := hide hct
  have HL := hide hl
  have HRL := hide hRl
  have HRT := hide hRt
  have hgs := hg.lt
  have hvs := hb.lt
  have hgN : g ≠ w.heap.size := by omega
  have hvN : vb ≠ w.heap.size := by omega
  have HG2 := hide hG2
  unfold maxLen at hG2
  obtain ⟨P, hP⟩ : ∃ P : Ending → World → Prop, P = InsOut w B (.slice (some ⟨g, 0, none⟩) n n) (es.take i ++ e :: es.drop i) := ⟨_, rfl⟩
  rw [← hP]
  have HP := hide hP
  have HW1 := hide hW1
  have hz2 : ¬ ((i : Int) = (n : Int)) := by omega
  have hz3 : (n : Int) < (n : Int) + 1 := by omega
  have hci : ¬ (n = i) := by omega
  have hgi : ¬ (G = i) := by omega
  have hgi1 : ¬ (G = i + 1) := by omega
  have hi1 : (i : Int) + 1 ≤ (n : Int) + 1 := by omega
  have hi0 : 0 ≤ (i : Int) + 1 := by omega
  have hi2 : (i : Int) ≤ (n : Int) + 1 := by omega
  have hw1 : IntKind.i64.wrap ((i : Int) + 1) = (i : Int) + 1 := by rw [IntKind.wrap_i64]; omega
  have hm1 : (edc e).length = Nat.min 1 (n + 1 - i) * 3 := by rw [show Nat.min 1 (n + 1 - i) = 1 from Nat.min_eq_left (by omega)]; rfl
  have hm2 : i * 3 + (edc e).length ≤ ROW.toArray.size := by rw [List.size_toArray, hRl]; show i * 3 + 3 ≤ _; omega
  have HM1 := hide hm1
  have HM2 := hide hm2
  clear ho hb hg hct hP hl hm1 hm2 hN hC1 hW1 hRl hRt hROW hG hold hz0 hz1 hcs hik
  go_enter Tryd.func26, Tryd.ntmps26
  go_wp2_with (first
    | (at_builtin; go_must (refine Lib.wpList_append_run _ rfl _ _ _ _ rfl _ _ rfl rfl _ _ (hrz _) ?_))
    | ((with_reducible refine wpList_copy3 (o := ⟨some 45, _, _, _, _, _⟩) ?_ (.tmp 43) (.tmp 44) ?_ w.heap.size (i * 3) (n + 1 - i) (G - i) ⟨vb, 0, none⟩ 1 1 ?_ ?_ _ 64 (edc e) HN.out HM1.out (news_blk HV.out) HM2.out (edc_one e) ?_)
       · rfl
       · rfl
       · rfl
       · rfl
       intro w2 HG2 HC2 hs2))
  have hin : i ≤ n := by omega
  have hdl : (edf (es.drop i)).length = (n - i) * 3 := by rw [edf_len, List.length_drop, HL.out]
  have hg2 : Blk w2 g 64 cur := HG.out.chg HC2.out hgN
  have hsrc1 : ∀ j v, (edf (es.drop i))[j]? = some v → w2.drew.cell? ((⟨g, i * 3, none⟩ : Addr).add j) = some v := by
    intro j v hj
    have hjl := (List.getElem?_eq_some_iff.1 hj).1
    rw [edf_drop, List.getElem?_drop, ← HCT.out, List.getElem?_take, if_pos (by omega), Array.getElem?_toList] at hj
    rw [add_plain]
    exact (hg2.cell _).trans hj
  have HS1 := hide hsrc1
  have HD1 := hide hdl
  have hsl : (splice ROW (i * 3) (edc e)).length = G * 3 := by
    rw [length_splice _ _ _ (by rw [HRL.out]; show i * 3 + 3 ≤ _; omega), HRL.out]
  have HSL := hide hsl
  clear hsrc1 hdl hg2 hsl
  go_region_law (first | (refine step_copy3 rfl _ _ rfl w.heap.size ((i + 1) * 3) (n - i) (G - (i + 1)) ⟨g, i * 3, none⟩ (n - i) (n - i) (by simp [Act.eval, Act.put]) (by simp [Act.eval, Act.put]) _ 64 (edf (es.drop i)) HG2.out (by rw [HD1.out, show Nat.min (n - i) (n - i) = n - i from Nat.min_self _]) HS1.out (by rw [HD1.out, List.size_toArray, HSL.out]; omega) (edf_one _) ?_; intro w3 HG3 HC3 hs3) | fail)
  go_wp2
  rw [HP.out]
  have hC : Chg (fun i => i = w.heap.size) w w3 := ((HC.out.mono (fun _ _ h => h.elim)).trans HC2.out (fun _ _ h => h)).trans (a := w) ((Chg.refl _ w2).drew.trans HC3.out (fun _ _ h => h)) (fun _ _ h => h)
  obtain ⟨h1, h2⟩ := splice_new ROW es e n i HL.out hi HRT.out (by rw [HRL.out]; omega)
  have hle : (es.take i ++ e :: es.drop i).length = n + 1 := by simp [HL.out]; omega
  refine ⟨_, rfl, ?_, hC.mono (fun i hi h => by rw [h] at hi; omega), Or.inr ⟨_, rfl, Nat.le_refl _⟩⟩
  rw [hle]
  exact own_mk (cur := splice (splice ROW (i * 3) (edc e)) ((i + 1) * 3) (edf (es.drop i))) HG3.out hB hG1 (by unfold maxLen; exact hG2) (by rw [h2, HRL.out]) hle (by rw [← h1])

/-- slices.Insert of one edge, at any place. -/
theorem insert_any (B i : Nat) (v : Value) (es : List Ed) (e : Ed) (vb : Nat) (w : World) (ho : w.ownsRow B 64 3 v es.length (edf es)) (hb : Blk w vb 64 (edc e).toArray) (hvb : v.ownBlock ≠ some vb) (hB : B ≤ w.heap.size) (hi : i ≤ es.length) (hn : es.length ≤ 256) :
    Calls Tryd.prog 26 #[v, .int .i64 (i : Int), .slice (some ⟨vb, 0, none⟩) 1 1] w (InsOut w B v (es.take i ++ e :: es.drop i)) := by
  obtain ⟨A, c, hv, h1, h2⟩ := own_cap ho
  rcases Nat.lt_or_ge i es.length with hlt | hge
  · have ho' := ho
    rw [hv] at ho'
    obtain ⟨g, cap, hv', hBg, _⟩ := ho'.form (by omega)
    rw [hv'] at hv
    have hgv : vb ≠ g := fun h => hvb (by rw [hv, h]; rfl)
    have hcc : c = cap := by injection hv'
    subst hcc
    rcases Nat.lt_or_ge c (es.length + 1) with hr | hr
    · have := ins_grow B g c i v es e vb es.length w hv rfl ho hb hB hlt hr hn
      rw [← hv] at this
      exact this
    · have := ins_shift B g c i v es e vb es.length w hv rfl ho hb hgv hlt hr hn
      rw [← hv] at this
      exact this
  · have : i = es.length := by omega
    subst this
    rw [List.take_length, List.drop_length]
    have := ins_end B A c v es e vb w hv ho hb hB hn
    rw [← hv] at this
    exact this
end Go.Proofs.YtjekaagjgamfkaaDoor
