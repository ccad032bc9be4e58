/- The laws' 'works', and the plain law of steps over a queue. -/
import Derived.Test.YtammpllfmbmdmaaSq
import Derived.Test.YtammpllfmbmdmaaIq
namespace Go.Proofs.Ytammpllfmbmdmaa
open Go.RowKit

def qSt (k : Nat) : List Int → List StepD → List Int
  | l, [] => l
  | l, s :: S => qSt k (specQ k l s).1 S
def qAns (k : Nat) : List Int → List StepD → List AnsD
  | _, [] => []
  | l, s :: S => (specQ k l s).2.1 :: qAns k (specQ k l s).1 S

theorem qSt_snoc (k : Nat) (s : StepD) : ∀ (S : List StepD) (l : List Int), qSt k l (S ++ [s]) = (specQ k (qSt k l S) s).1
  | [], _ => rfl
  | _ :: S, _ => qSt_snoc k s S _
theorem qAns_snoc (k : Nat) (s : StepD) : ∀ (S : List StepD) (l : List Int), qAns k l (S ++ [s]) = qAns k l S ++ [(specQ k (qSt k l S) s).2.1]
  | [], _ => rfl
  | t :: S, l => by
    show (specQ k l t).2.1 :: qAns k (specQ k l t).1 (S ++ [s]) = (specQ k l t).2.1 :: qAns k (specQ k l t).1 S ++ _
    rw [qAns_snoc k s S]; rfl

theorem specQ_len (k : Nat) (l : List Int) (s : StepD) : (specQ k l s).1.length ≤ l.length + 1 := by
  have he : ∀ i, (l.eraseIdx i).length ≤ l.length + 1 := fun i => by rw [List.length_eraseIdx]; split <;> omega
  unfold specQ
  simp only
  by_cases h0 : s.what = 0
  · rw [if_pos h0]; simp
  · rw [if_neg h0]
    by_cases h1 : s.what = 1
    · rw [if_pos h1]; exact he _
    · rw [if_neg h1]
      by_cases h2 : s.what = 2
      · rw [if_pos h2]; simp
      · rw [if_neg h2]
        by_cases h3 : s.what = 3
        · rw [if_pos h3]; simp
        · rw [if_neg h3]; simp
theorem specQ_ans {k : Nat} {l l' : List Int} {s : StepD} {a : AnsD} {b : Bool} (h : specQ k l s = (l', a, b)) : a.panicked = false ∧ a.list = [] ∧ (b = true → 0 ≤ s.what ∧ s.what ≤ 6) := by
  unfold specQ at h
  simp only at h
  by_cases h0 : s.what = 0
  · rw [if_pos h0] at h; injection h with _ h; injection h with h1 h2; subst h1; exact ⟨rfl, rfl, fun _ => by omega⟩
  · rw [if_neg h0] at h
    by_cases h1 : s.what = 1
    · rw [if_pos h1] at h; injection h with _ h; injection h with h3 h4; subst h3; exact ⟨atAns_pan _ _, atAns_list _ _, fun _ => by omega⟩
    · rw [if_neg h1] at h
      by_cases h2 : s.what = 2
      · rw [if_pos h2] at h; injection h with _ h; injection h with h3 h4; subst h3; exact ⟨atAns_pan _ _, atAns_list _ _, fun _ => by omega⟩
      · rw [if_neg h2] at h
        by_cases h3 : s.what = 3
        · rw [if_pos h3] at h; injection h with _ h; injection h with h4 h5; subst h4; exact ⟨rfl, rfl, fun _ => by omega⟩
        · rw [if_neg h3] at h; injection h with _ h; injection h with h4 h5; subst h4
          refine ⟨rfl, rfl, fun hb => ?_⟩
          rw [hb] at h5
          have := of_decide_eq_true h5
          omega
theorem specQ_pan {k : Nat} {l l' : List Int} {s : StepD} {a : AnsD} {b : Bool} (h : specQ k l s = (l', a, b)) : a.panicked = false := (specQ_ans h).1
theorem specQ_list {k : Nat} {l l' : List Int} {s : StepD} {a : AnsD} {b : Bool} (h : specQ k l s = (l', a, b)) : a.list = [] := (specQ_ans h).2.1

theorem qSt_len (k : Nat) : ∀ (S : List StepD) (l : List Int), (qSt k l S).length ≤ l.length + S.length
  | [], _ => by simp [qSt]
  | s :: S, l => by
    have h1 := qSt_len k S (specQ k l s).1
    have h2 := specQ_len k l s
    show (qSt k (specQ k l s).1 S).length ≤ _
    simp; omega

section
variable (B kb lv fv sv gv L : Nat)
theorem mach0_outs : ∀ (S : List StepD) (l : List Int), (mach0 B kb lv fv sv gv L).outs l S = qAns 0 l S
  | [], _ => rfl
  | s :: S, l => by
    show (specQ 0 l s).2.1 :: (mach0 B kb lv fv sv gv L).outs (specQ 0 l s).1 S = _
    rw [mach0_outs S]; rfl
theorem mach1_outs : ∀ (S : List StepD) (l : List Int), (mach1 B kb lv fv sv gv L).outs l S = qAns 1 l S
  | [], _ => rfl
  | s :: S, l => by
    show (specQ 1 l s).2.1 :: (mach1 B kb lv fv sv gv L).outs (specQ 1 l s).1 S = _
    rw [mach1_outs S]; rfl
theorem mach0_good : ∀ (l : List Int) (S : List StepD), (∀ s ∈ S, 0 ≤ s.what ∧ s.what ≤ 6) → l.length + S.length ≤ 1099511627776 → (mach0 B kb lv fv sv gv L).allGood l S
  | _, [], _, _ => trivial
  | l, s :: S, h, hl => by
    have h1 := h s (List.mem_cons_self ..)
    simp at hl
    refine ⟨⟨h1.1, h1.2, by omega⟩, fun _ => ?_⟩
    exact mach0_good _ S (fun t ht => h t (List.mem_cons_of_mem _ ht)) (by have := specQ_len 0 l s; show (specQ 0 l s).1.length + S.length ≤ _; omega)
theorem mach1_good : ∀ (l : List Int) (S : List StepD), (∀ s ∈ S, 0 ≤ s.what ∧ s.what ≤ 6) → l.length + S.length ≤ 1099511627776 → (mach1 B kb lv fv sv gv L).allGood l S
  | _, [], _, _ => trivial
  | l, s :: S, h, hl => by
    have h1 := h s (List.mem_cons_self ..)
    simp at hl
    refine ⟨⟨h1.1, h1.2, by omega⟩, fun _ => ?_⟩
    exact mach1_good _ S (fun t ht => h t (List.mem_cons_of_mem _ ht)) (by have := specQ_len 1 l s; show (specQ 1 l s).1.length + S.length ≤ _; omega)
end

theorem mach0_inv (s : Nat) (W : World) (h : QW s 0 W) : ∃ F, (mach0 s s (s + 3) (s + 4) (s + 5) (s + 6) (s + 1)).Inv W [] F := by
  refine ⟨fun i => i = s ∨ i = s + 3 ∨ i = s + 1, h.k, h.lv, ⟨none, [], h.l, rfl, rfl, Or.inr (Or.inr rfl), fun b hb => by cases hb⟩, Or.inl rfl, Or.inr (Or.inl rfl), fun i hi => ?_⟩
  have := h.size
  constructor
  · show s ≤ i
    rcases hi with rfl | rfl | rfl <;> omega
  · rcases hi with rfl | rfl | rfl <;> omega
theorem mach1_inv (s : Nat) (W : World) (h : QW s 1 W) : ∃ F, (mach1 s s (s + 3) (s + 4) (s + 5) (s + 6) (s + 2)).Inv W [] F := by
  refine ⟨fun i => i = s ∨ i = s + 4 ∨ i = s + 2, h.k, h.fv, ⟨none, none, [], h.f, rfl, rfl, Or.inr (Or.inr rfl), (fun b hb => by cases hb), List.nodup_nil, fun y hy => by cases hy⟩, Or.inl rfl, Or.inr (Or.inl rfl), fun i hi => ?_⟩
  have := h.size
  constructor
  · show s ≤ i
    rcases hi with rfl | rfl | rfl <;> omega
  · rcases hi with rfl | rfl | rfl <;> omega

theorem qAns_lists (k : Nat) : ∀ (S : List StepD) (l : List Int) (a : AnsD), a ∈ qAns k l S → a.list = []
  | [], _, _, h => by cases h
  | s :: S, l, a, h => by
    rcases List.mem_cons.1 h with rfl | h
    · exact specQ_list (k := k) (l := l) (s := s) rfl
    · exact qAns_lists k S _ a h

/-- The loop of FnQueue. -/
structure FqI (k : Nat) (S : List StepD) (w wr : World) (j : Nat) (LA : Option Addr) (ln lc : Nat) (v6 : Value) (P : List (AnsD × Value)) : Prop where
  sl : SliceIs wr (Row3 wr) LA ln lc (qSt k [] (S.take j))
  want : OutRow wr (fun _ => True) 31 w.heap.size v6 P
  len : P.length = j
  eq : P.map (·.1) = qAns k [] (S.take j)
  good : ∀ s ∈ S.take j, 0 ≤ s.what ∧ s.what ≤ 6
  bel : Below w.heap.size w wr
  small : ln ≤ j

theorem fqi_start (k : Nat) (S : List StepD) (w w1 : World) (hb : Below w.heap.size w w1) : FqI k S w w1 0 none 0 0 (.slice none 0 0) [] :=
  ⟨SliceIs.none_, ⟨World.ownsRow_nil _ _ _ _, fun p hp => by cases hp⟩, rfl, rfl, fun s hs => by simp at hs, hb, Nat.le_refl _⟩

theorem fqi_step {k : Nat} {S : List StepD} {w wr w3 w6 : World} {j : Nat} {LA NA : Option Addr} {ln lc nc : Nat} {v6 v' : Value} {P : List (AnsD × Value)} {s : StepD} {l' : List Int} {a : AnsD} (h : FqI k S w wr j LA ln lc v6 P) (ht : S.take (j + 1) = S.take j ++ [s]) (hq : specQ k (qSt k [] (S.take j)) s = (l', a, true)) (hb : Below wr.heap.size wr w3) (hsl : SliceIs w3 (Row3 w3) NA l'.length nc l')
    (hown : w6.ownsRow w.heap.size 31 4 v' (P.length + 1) (ansFlat P ++ [.int .i64 a.n, .bool a.ok, .slice none 0 0, .bool false])) (hc : Chg (fun g => v6.ownBlock = some g) w3 w6) (hpn : a.panicked = false) (hal : a.list = []) : FqI k S w w6 (j + 1) NA l'.length nc v' (P ++ [(a, .slice none 0 0)]) := by
  have hown3 := own_chg h.want.own (Chg.ofBelow hb (fun _ => False)) (fun _ _ h => h)
  have h31 : ∀ i cs, Blk w3 i 3 cs → ¬ v6.ownBlock = some i := fun i cs hbk e => by
    obtain ⟨cs', hb'⟩ := own_blk hown3 e
    exact hbk.ne_ hb' (by decide) rfl
  have hlen : l'.length ≤ j + 1 := by
    have h1 := specQ_len k (qSt k [] (S.take j)) s
    rw [hq] at h1
    have h2 := h.sl.len
    have h3 := h.small
    have h4 : l'.length ≤ (qSt k [] (S.take j)).length + 1 := h1
    omega
  refine ⟨?_, ⟨?_, ?_⟩, by simp [h.len], ?_, ?_, ?_, hlen⟩
  · rw [ht, qSt_snoc, hq]; exact hsl.row hc h31
  · rw [ansFlat_snoc, List.length_append, hpn]; exact hown
  · intro p hp
    rcases List.mem_append.1 hp with hp | hp
    · obtain ⟨A', c', e, hs⟩ := h.want.lists p hp
      have hq2 : p.1.list = [] := by
        have h1 : p.1 ∈ qAns k [] (S.take j) := by rw [← h.eq]; exact List.mem_map_of_mem hp
        exact qAns_lists k _ _ _ h1
      rw [hq2] at hs e
      have : A' = none ∨ True := Or.inr trivial
      exact ⟨A', c', by rw [hq2]; exact e, by rw [hq2]; exact ⟨rfl, hs.cap, hs.max, ⟨by simp, fun h => absurd h (by simp)⟩, hs.nil_⟩⟩
    · rw [List.mem_singleton.1 hp]
      exact ⟨none, 0, by rw [hal]; rfl, by rw [hal]; exact SliceIs.none_⟩
  · rw [List.map_append, h.eq, ht, qAns_snoc, hq]; rfl
  · intro t htt
    rw [ht] at htt
    rcases List.mem_append.1 htt with htt | htt
    · exact h.good t htt
    · rw [List.mem_singleton.1 htt]; exact (specQ_ans hq).2.2 rfl
  · exact (h.bel.trans (hb.mono h.bel.size)).trans (hc.below (Nat.le_trans h.bel.size hb.size) (fun i hi => (hown3.lt i hi).1))

theorem OutRow.below {w w' : World} {t base : Nat} {v : Value} {P : List (AnsD × Value)} (h : OutRow w (fun _ => True) t base v P) (hb : Below w.heap.size w w') : OutRow w' (fun _ => True) t base v P :=
  ⟨own_chg h.own (Chg.ofBelow hb (fun _ => False)) (fun _ _ h => h), fun p hp => by
    obtain ⟨LA, lc, e, hs⟩ := h.lists p hp
    exact ⟨LA, lc, e, hs.below hb⟩⟩
theorem StepsIn.more {w : World} {K K' : Nat → Prop} {A : Option Addr} {k : Nat} {S : List StepD} (h : StepsIn w K A k S) (hK : ∀ i, K i → K' i) : StepsIn w K' A k S :=
  ⟨h.1, fun i hi => by
    obtain ⟨ad, s, LA, lc, e, hx, hst⟩ := h.2 i hi
    exact ⟨ad, s, LA, lc, e, hx, ⟨⟨hK _ hst.here.1, hst.here.2⟩, hst.sl.more (fun i _ hi => hK i hi), hst.c0, hst.c1, hst.c2, hst.c3, hst.c4, hst.c5, hst.c6, hst.c7⟩⟩⟩
def works1 : StepD := ⟨0, 0, 0, 0, 7, 0, 0, []⟩
def works2 : StepD := ⟨1, 0, 0, 0, 0, 0, 0, []⟩
/-- The steps of works, in memory. -/
theorem works_steps (w : World) (g : Nat) (h : Blk w g 29 #[.int .i64 0, .int .i64 0, .int .i64 0, .int .i64 0, .int .i64 7, .int .i64 0, .int .i64 0, .slice none 0 0, .int .i64 1, .int .i64 0, .int .i64 0, .int .i64 0, .int .i64 0, .int .i64 0, .int .i64 0, .slice none 0 0]) :
    StepsIn w (fun _ => True) (some ⟨g, 0, none⟩) 2 [works1, works2] := by
  refine ⟨rfl, fun i hi => ?_⟩
  match i, hi with
  | 0, _ => exact ⟨_, works1, none, 0, rfl, rfl, ⟨trivial, h.lt⟩, SliceIs.none_, by rw [add_plain, h.cell]; rfl, by rw [add_plain, h.cell]; rfl, by rw [add_plain, h.cell]; rfl, by rw [add_plain, h.cell]; rfl, by rw [add_plain, h.cell]; rfl, by rw [add_plain, h.cell]; rfl, by rw [add_plain, h.cell]; rfl, by rw [add_plain, h.cell]; rfl⟩
  | 1, _ => exact ⟨_, works2, none, 0, rfl, rfl, ⟨trivial, h.lt⟩, SliceIs.none_, by rw [add_plain, h.cell]; rfl, by rw [add_plain, h.cell]; rfl, by rw [add_plain, h.cell]; rfl, by rw [add_plain, h.cell]; rfl, by rw [add_plain, h.cell]; rfl, by rw [add_plain, h.cell]; rfl, by rw [add_plain, h.cell]; rfl, by rw [add_plain, h.cell]; rfl⟩

set_option maxHeartbeats 1000000 in
set_option maxRecDepth 100000 in
theorem works_any (w : World) : Calls Try.prog 11 #[] w fun e w' => e = .returned (.bool true) ∧ Below w.heap.size w w' := by
  have hsteps : ∀ W, W = w.alloc (.cells #[.int .i64 0, .int .i64 0, .int .i64 0, .int .i64 0, .int .i64 7, .int .i64 0, .int .i64 0, .slice none 0 0, .int .i64 1, .int .i64 0, .int .i64 0, .int .i64 0, .int .i64 0, .int .i64 0, .int .i64 0, .slice none 0 0] 29) → StepsIn W (fun _ => True) (some ⟨w.heap.size, 0, none⟩) 2 [works1, works2] ∧ Below w.heap.size w W := by
    rintro W rfl
    exact ⟨works_steps _ _ (Blk.new _ _ _), (Below.refl _ _).alloc (Nat.le_refl _) _⟩
  have HST := hide hsteps
  clear hsteps
  go_enter Try.func11, Try.ntmps11
  go_wp2_with fail
  generalize hW : w.alloc (.cells #[.int .i64 0, .int .i64 0, .int .i64 0, .int .i64 0, .int .i64 7, .int .i64 0, .int .i64 0, .slice none 0 0, .int .i64 1, .int .i64 0, .int .i64 0, .int .i64 0, .int .i64 0, .int .i64 0, .int .i64 0, .slice none 0 0] 29) = W
  obtain ⟨hs, hb⟩ := HST.out W hW.symm
  have HB := hide hb
  clear hW hb
  have hq := queue_walk (mach0 W.heap.size W.heap.size (W.heap.size + 3) (W.heap.size + 4) (W.heap.size + 5) (W.heap.size + 6) (W.heap.size + 1)) (mach0_ok _ _ _ _ _ _ _) [] 0 (some ⟨w.heap.size, 0, none⟩) 2 2 [works1, works2] W rfl rfl rfl (fun W2 hw => mach0_inv _ W2 hw) hs (by omega) (mach0_good _ _ _ _ _ _ _ [] _ (fun s hs => by simp at hs; rcases hs with rfl | rfl <;> decide) (by simp))
  rw [mach0_outs] at hq
  refine hq.mono ?_
  clear hq
  rintro e w2 ⟨RA, rc, rfl, hm2, hans2, hbl2⟩
  have hq2 : qAns 0 [] [works1, works2] = [zeroAns, ⟨7, true, [], false⟩] := by rfl
  rw [hq2] at hans2 ⊢
  obtain ⟨ad, a, LA, lc, rfl, hx, hat⟩ := hans2.2 1 (by decide)
  have ha : a = ⟨7, true, [], false⟩ := by simpa using hx.symm
  have hc : w2.cell? ⟨ad.block, ad.off + 4, none⟩ = some (.int .i64 7) := by
    have := hat.c0
    rw [ha] at this
    exact this
  have HB2 : Hid (Below w.heap.size w w2) := HB.out.trans (hbl2.mono HB.out.size)
  clear hans2 hx hat hbl2 hs
  show (match (Ending.returned (.slice (some ad) 2 rc)), w2 with | _, _ => _)
  go_wp2
  go_ret
  exact ⟨rfl, HB2.out⟩
end Go.Proofs.Ytammpllfmbmdmaa
