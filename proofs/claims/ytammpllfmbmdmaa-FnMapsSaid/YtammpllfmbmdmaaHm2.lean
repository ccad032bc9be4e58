/- Hash maps in memory: what a hash map holds; the walks of the hash, of sameness, Len and Get. No condition but that the modulus is an int. -/
import Derived.Test.YtammpllfmbmdmaaHm
import Derived.BigQuiet
import Derived.Deep.LoopGhost
namespace Go.Proofs.Ytammpllfmbmdmaa
open Go.RowKit
open Go.ChangeMaps (setBlock)

/-- The hash of a key. -/
def hs (md k : Int) : Int := if md ≤ 0 then 0 else k.tmod md

abbrev eqF : Value := .func (.func 68) #[] #[]
abbrev hF (mb : Nat) : Value := .func (.func 67) #[] #[.pointer (some ⟨mb, 0, none⟩)]
def hmCells (mb tb : Nat) (n : Nat) : Array Value := #[eqF, eqF, hF mb, hF mb, .int .i64 (-1), .map (some tb), .int .i64 (n : Int)]

/-- Each bucket's chain holds the pairs with that hash. -/
def Chains (md : Int) (w : World) (F : Nat → Prop) (L : List (Int × Value)) (l : List (Int × Int)) : Prop :=
  ∀ h, ∃ x c, (L.lookup h).getD (.pointer none) = pv x ∧ Seg w F x none c ∧ c.Perm (l.filter (fun q => decide (hs md q.1 = h)))

/-- The hash map at p, in the blocks F, holds the pairs l; its hash is in block mb. -/
structure HM (md : Int) (mb : Nat) (w : World) (p : Nat) (l : List (Int × Int)) (F : Nat → Prop) : Prop where
  ex : ∃ tb L, Blk w p 128 (hmCells mb tb l.length) ∧ IMap w tb L ∧ F tb ∧ Chains md w F L l
  nodup : (l.map (·.1)).Nodup
  fp : F p
  mod : Blk w mb 3 #[.int .i64 md]
  lt : ∀ i, F i → i < w.heap.size
  nmb : ¬ F mb

section
variable {md : Int} {mb p : Nat} {w w' : World} {l : List (Int × Int)} {F S : Nat → Prop} {L : List (Int × Value)}
theorem Chains.chg (h : Chains md w F L l) (hc : Chg S w w') (hF : ∀ i, F i → ¬ S i) : Chains md w' F L l := fun k => by
  obtain ⟨x, c, h1, h2, h3⟩ := h k
  exact ⟨x, c, h1, h2.chg hc hF, h3⟩
theorem HM.chg (h : HM md mb w p l F) (hc : Chg S w w') (hF : ∀ i, F i → ¬ S i) (hmb : ¬ S mb) : HM md mb w' p l F := by
  obtain ⟨tb, L, h1, h2, h3, h4⟩ := h.ex
  exact ⟨⟨tb, L, h1.chg hc (hF p h.fp), h2.chg hc (hF tb h3), h3, h4.chg hc hF⟩, h.nodup, h.fp, h.mod.chg hc hmb, fun i hi => Nat.lt_of_lt_of_le (h.lt i hi) hc.size, h.nmb⟩
end

theorem hm_cells {w : World} {p mb tb n : Nat} (h : Blk w p 128 (hmCells mb tb n)) : w.cell? ⟨p, 0, none⟩ = some eqF ∧ w.cell? ⟨p, 1, none⟩ = some eqF ∧ w.cell? ⟨p, 2, none⟩ = some (hF mb) ∧ w.cell? ⟨p, 3, none⟩ = some (hF mb) ∧ w.cell? ⟨p, 4, none⟩ = some (.int .i64 (-1)) ∧ w.cell? ⟨p, 5, none⟩ = some (.map (some tb)) ∧ w.cell? ⟨p, 6, none⟩ = some (.int .i64 (n : Int)) :=
  ⟨by rw [h.cell]; rfl, by rw [h.cell]; rfl, by rw [h.cell]; rfl, by rw [h.cell]; rfl, by rw [h.cell]; rfl, by rw [h.cell]; rfl, by rw [h.cell]; rfl⟩

/-! ### the plain law -/
theorem mem_lookup {l : List (Int × Int)} (hn : (l.map (·.1)).Nodup) {k v : Int} : l.lookup k = some v ↔ (k, v) ∈ l := by
  induction l with
  | nil => simp
  | cons q l ih =>
    obtain ⟨a, b⟩ := q
    have hn' := List.nodup_cons.1 hn
    by_cases hka : k = a
    · subst hka
      simp only [List.lookup, beq_self_eq_true, Option.some.injEq, List.mem_cons, Prod.mk.injEq, true_and]
      constructor
      · intro h; exact Or.inl h.symm
      · rintro (h | h)
        · exact h.symm
        · exact absurd (List.mem_map.2 ⟨_, h, rfl⟩) hn'.1
    · have h1 : (k == a) = false := beq_eq_false_iff_ne.2 hka
      simp only [List.lookup, h1, ih hn'.2, List.mem_cons, Prod.mk.injEq, hka, false_and, false_or]

theorem opt_ext {a b : Option Int} (h : ∀ v, a = some v ↔ b = some v) : a = b := by
  cases a with
  | none => cases b with
    | none => rfl
    | some v => exact absurd ((h v).2 rfl) (by simp)
  | some v => exact ((h v).1 rfl).symm

theorem nodup_perm {l l' : List (Int × Int)} (hp : l.Perm l') (h : (l'.map (·.1)).Nodup) : (l.map (·.1)).Nodup := (hp.map (·.1)).nodup_iff.2 h
theorem nodup_filter {l : List (Int × Int)} (f : Int × Int → Bool) (h : (l.map (·.1)).Nodup) : ((l.filter f).map (·.1)).Nodup := h.sublist (List.filter_sublist.map _)

theorem chain_nodup {md h : Int} {l c : List (Int × Int)} (hn : (l.map (·.1)).Nodup) (hp : c.Perm (l.filter (fun q => decide (hs md q.1 = h)))) : (c.map (·.1)).Nodup := nodup_perm hp (nodup_filter _ hn)

theorem chain_mem {md h : Int} {l c : List (Int × Int)} (hp : c.Perm (l.filter (fun q => decide (hs md q.1 = h)))) {q : Int × Int} : q ∈ c ↔ q ∈ l ∧ hs md q.1 = h := by
  rw [hp.mem_iff, List.mem_filter, decide_eq_true_eq]

theorem chain_lookup {md k : Int} {l c : List (Int × Int)} (hn : (l.map (·.1)).Nodup) (hp : c.Perm (l.filter (fun q => decide (hs md q.1 = hs md k)))) : c.lookup k = l.lookup k :=
  opt_ext fun v => by rw [mem_lookup (chain_nodup hn hp), mem_lookup hn, chain_mem hp]; simp

theorem lookup_past {c0 c1 : List (Int × Int)} {k : Int} (h : ∀ q ∈ c0, q.1 ≠ k) : (c0 ++ c1).lookup k = c1.lookup k := by
  induction c0 with
  | nil => rfl
  | cons q c0 ih =>
    have h1 : (k == q.1) = false := beq_eq_false_iff_ne.2 (fun e => h q (by simp) e.symm)
    simp only [List.cons_append, List.lookup, h1]
    exact ih (fun q hq => h q (by simp [hq]))

/-! ### the walks -/
def okI (md : Int) : Prop := -9223372036854775808 ≤ md ∧ md ≤ 9223372036854775807

set_option maxHeartbeats 400000 in
theorem hash_any (md k : Int) (mb : Nat) (w : World) (h : Blk w mb 3 #[.int .i64 md]) (hmd : okI md) :
    Calls Try.prog 67 #[.int .i64 k, .pointer (some ⟨mb, 0, none⟩)] w fun e w' => e = .returned (.int .i64 (hs md k)) ∧ w' = w := by
  have c0 : w.cell? ⟨mb, 0, none⟩ = some (.int .i64 md) := by rw [h.cell]; rfl
  obtain ⟨h1, h2⟩ := hmd
  unfold hs
  go_enter Try.func67, Try.ntmps67
  by_cases h0 : md ≤ 0
  · go_wp2
    go_ret
    exact ⟨by simp, rfl⟩
  · have h3 : ¬ md = 0 := by omega
    have h4 : ¬ md = -1 := by omega
    go_wp2
    go_ret
    exact ⟨by simp, rfl⟩

set_option maxHeartbeats 400000 in
theorem same_any (a b : Int) (w : World) : Calls Try.prog 68 #[.int .i64 a, .int .i64 b] w fun e w' => e = .returned (.bool (decide (a = b))) ∧ w' = w := by
  go_enter Try.func68, Try.ntmps68
  go_wp2
  go_ret
  exact ⟨rfl, rfl⟩

set_option maxHeartbeats 400000 in
theorem len_any (md : Int) (mb p : Nat) (l : List (Int × Int)) (F : Nat → Prop) (w : World) (h : HM md mb w p l F) :
    Calls Try.prog 74 #[.pointer (some ⟨p, 0, none⟩)] w fun e w' => e = .returned (.int .i64 (l.length : Nat)) ∧ w' = w := by
  obtain ⟨tb, L, h1, _⟩ := h.ex
  obtain ⟨c0, c1, c2, c3, c4, c5, c6⟩ := hm_cells h1
  go_enter Try.func74, Try.ntmps74
  go_wp2
  go_ret
  exact ⟨rfl, rfl⟩

/-- What Get answers. -/
def getA (o : Option Int) : Value := .tuple #[.int .i64 (o.getD (-1)), .bool o.isSome]

theorem pv_none : pv none = .pointer none := rfl
theorem pv_some (b : Nat) : pv (some b) = .pointer (some ⟨b, 0, none⟩) := rfl

set_option maxHeartbeats 1000000 in
set_option maxRecDepth 100000 in
theorem get_any (md k : Int) (mb p : Nat) (l : List (Int × Int)) (F : Nat → Prop) (w : World) (h : HM md mb w p l F) (hmd : okI md) :
    Calls Try.prog 72 #[.pointer (some ⟨p, 0, none⟩), .int .i64 k] w fun e w' => e = .returned (getA (l.lookup k)) ∧ ∃ n, w' = w.drewN n := by
  obtain ⟨tb, L, h1, h2, h3, h4⟩ := h.ex
  obtain ⟨c0, c1, c2, c3, c4, c5, c6⟩ := hm_cells h1
  obtain ⟨x0, c, hx0, hseg, hperm⟩ := h4 (hs md k)
  have hlook : (Instr.lookup 126 (.map (some tb)) (.int .i64 (hs md k)) false).run Try.prog w = .ok (pv x0) w := by
    have := h2.look (P := Try.prog) (t := 126) (z := .pointer none) Try.underlying126 Try.underlying3 (by kernel_rfl) (hs md k) false
    rw [this, ← hx0]; rfl
  have HH := hide (hash_any md k mb w h.mod hmd)
  have HC : Hid (c.lookup k = l.lookup k) := chain_lookup h.nodup hperm
  have HS := hide hseg
  clear h h1 h2 h3 h4 hperm hseg hx0
  go_enter Try.func72, Try.ntmps72
  go_wp2_with fail
  refine HH.out.mono ?_
  rintro e w' ⟨rfl, hw⟩
  obtain rfl := hw.symm
  go_wp2_with fail
  go_loopg [7] (c.length + 1) (fun m s7 wr => ∃ (x : Option Nat) (cc0 cc1 : List (Int × Int)) (n : Nat), s7 = pv x ∧ c = cc0 ++ cc1 ∧ Hid (∀ q ∈ cc0, q.1 ≠ k) ∧ Hid (Seg w F x none cc1) ∧ wr = w.drewN n ∧ cc1.length < m)
  case atStart => exact ⟨x0, [], c, 0, rfl, rfl, (fun _ h => by cases h), HS.out, rfl, Nat.lt_succ_self _⟩
  case round =>
    obtain ⟨x, cc0, cc1, n, rfl, hcc, hne, hsg, rfl, hm⟩ := hrel
    cases x with
    | none =>
      obtain ⟨rfl, _⟩ := Seg.nil_of_none hsg.out
      have hc := HC.out
      have hnone : c.lookup k = none := by rw [hcc, lookup_past hne.out]; rfl
      rw [hnone] at hc
      rw [pv_none]
      go_wp2
      refine bodyPost_ret (v := getA none) ?_ rfl ?_
      · simp [results, Try.f72, go_sem, getA]
      exact ⟨by rw [← hc], _, rfl⟩
    | some b =>
      obtain ⟨q, d, nx, rfl, hF, hk, hsg2⟩ := Seg.cons_of hsg.out
      obtain ⟨k0, v0⟩ := q
      obtain ⟨e0, e1, e2⟩ := entry_cells hk
      rw [pv_some]
      have HSG2 := hide hsg2
      clear hk hsg2 hsg
      go_wp2_with fail
      go_quiet ((go_at_call 68; exact (same_any _ _ _).mono (fun _ _ h => ⟨h.1, _, h.2⟩)))
      by_cases hk : k0 = k
      · subst hk
        have hc := HC.out
        have hsome : c.lookup k0 = some v0 := by rw [hcc, lookup_past hne.out]; simp [List.lookup]
        rw [hsome] at hc
        go_wp2
        refine bodyPost_ret (v := getA (some v0)) ?_ rfl ?_
        · simp [results, Try.f72, go_sem, getA]
        exact ⟨by rw [← hc], _, rfl⟩
      · have hk2 : decide (k0 = k) = false := decide_eq_false hk
        go_wp2
        go_roundg (d.length + 1)
        case measure => simp at hm; omega
        case rel => exact ⟨nx, cc0 ++ [(k0, v0)], d, _, rfl, by rw [hcc]; simp, (fun q hq => by
          rcases List.mem_append.1 hq with h | h
          · exact hne.out q h
          · rw [List.mem_singleton.1 h]; exact hk), HSG2.out, rfl, Nat.lt_succ_self _⟩
end Go.Proofs.Ytammpllfmbmdmaa
