/- The walks of impl.run and its closures: a machine's steps, up to one that panics. -/
import Derived.Test.YtammpllfmbmdmaaAns
import Derived.Defers
import Derived.Recover
namespace Go.Proofs.Ytammpllfmbmdmaa
open Go.RowKit

theorem ansFlat_cells {α : Type} (f : α → List Value) (hf : ∀ a, (f a).length = 4) : ∀ {P : List α} {i : Nat} {p : α}, P[i]? = some p → ∀ q, q < 4 → (P.flatMap f)[i * 4 + q]? = (f p)[q]?
  | a :: P, 0, p, h, q, hq => by
    simp at h; subst h
    rw [List.flatMap_cons, List.getElem?_append_left (by rw [hf]; omega)]; simp
  | a :: P, i + 1, p, h, q, hq => by
    rw [List.flatMap_cons, List.getElem?_append_right (by rw [hf]; omega), hf, show (i + 1) * 4 + q - 4 = i * 4 + q by omega]
    exact ansFlat_cells f hf (by simpa using h) q hq

/-- The cells of answers with their lists' slices. -/
def ansFlat (P : List (AnsD × Value)) : List Value := P.flatMap (fun p => (p.1.cells p.2).toList)

theorem ansFlat_len : ∀ P : List (AnsD × Value), (ansFlat P).length = P.length * 4
  | [] => rfl
  | p :: P => by
    have := ansFlat_len P
    unfold ansFlat at this ⊢
    rw [List.flatMap_cons, List.length_append, this]
    simp [AnsD.cells]; omega

/-- A row of the call's own with answers; their lists lie in blocks of K. -/
structure OutRow (w : World) (K : Nat → Prop) (t base : Nat) (v : Value) (P : List (AnsD × Value)) : Prop where
  own : w.ownsRow base t 4 v P.length (ansFlat P)
  lists : ∀ p ∈ P, ∃ LA lc, p.2 = .slice LA p.1.list.length lc ∧ SliceIs w K LA p.1.list.length lc p.1.list

theorem OutRow.ansIn {w : World} {K : Nat → Prop} {t base : Nat} {v : Value} {P : List (AnsD × Value)} (h : OutRow w K t base v P) : ∃ A c, v = .slice A P.length c ∧ P.length ≤ maxLen ∧ AnsIn w A P.length (P.map (·.1)) := by
  rcases h.own.2 with ⟨rfl, h0⟩ | ⟨g, cap, cur, rfl, _, hh, hc, hm, _⟩
  · rw [h0]
    exact ⟨none, 0, rfl, by simp [maxLen], by rw [List.length_map]; exact h0, fun i hi => by omega⟩
  · refine ⟨_, _, rfl, Nat.le_trans hc hm, by simp, fun i hi => ?_⟩
    have hp : P[i]? = some P[i] := List.getElem?_eq_getElem hi
    obtain ⟨LA, lc, e, hs⟩ := h.lists P[i] (List.getElem_mem hi)
    have hl : g < w.heap.size := (Array.getElem?_eq_some_iff.1 hh).1
    have hcell := h.own.cells (g := g) rfl
    have hat := fun q hq => ansFlat_cells (fun p : AnsD × Value => (p.1.cells p.2).toList) (fun _ => rfl) hp q hq
    have each : ∀ q, q < 4 → w.cell? ⟨g, i * 4 + q, none⟩ = (P[i].1.cells P[i].2)[q]? := by
      intro q hq
      have h1 := hat q hq
      have h2 : (P[i].1.cells P[i].2)[q]? = some ((P[i].1.cells P[i].2)[q]'(by simpa [AnsD.cells] using hq)) := Array.getElem?_eq_getElem _
      have := hcell (i * 4 + q) _ (h1.trans (by rw [Array.getElem?_toList]; exact h2))
      rw [add_plain, Nat.zero_add] at this
      rw [this, h2]
    refine ⟨_, P[i].1, LA, lc, rfl, by rw [List.getElem?_map, hp]; rfl, ?_⟩
    rw [add_plain, Nat.zero_add]
    have sl : SliceIs w (fun i => i < w.heap.size) LA P[i].1.list.length lc P[i].1.list := hs.more (fun _ hi _ => hi)
    refine ⟨hl, sl, ?_, ?_, ?_, ?_⟩
    · exact each 0 (by omega)
    · exact each 1 (by omega)
    · rw [← e]; exact each 2 (by omega)
    · exact each 3 (by omega)

theorem info46 : (Try.prog.info? 46).map (fun i => (i.zero, i.size, i.bytes)) = some (some (.agg #[.int .i64 0, .bool false, .slice none 0 0, .bool false]), 4, 48) := by kernel_rfl
theorem info31 : (Try.prog.info? 31).map (fun i => (i.zero, i.size, i.bytes)) = some (some (.agg #[.int .i64 0, .bool false, .slice none 0 0, .bool false]), 4, 48) := by kernel_rfl

theorem catch_idle (p : Addr) (w : World) :
    CallsD Try.prog 84 #[.pointer (some p)] .returning w fun e u' w' => e = .returned (.tuple #[]) ∧ u' = .returning ∧ w' = w := by
  refine callsD_of_wpS Try.func84 rfl fun c₀ cs hu => ?_
  apply wpS_seq
  apply wpS_region
  simp [wpOpsS, go_sem, recoverD, hu, Try.ntmps84, Exit.thenS]
  refine wpS_cond (t := false) (by simp [Act.eval, Array.replicate]) ?_
  simp only [Bool.false_eq_true, if_false]
  refine wpS_of_wp (wp_skip ?_)
  cases c₀
  simp_all [bodyPostS, results, Try.results84]

theorem catch_panicking (g : Nat) (u : TypeId) (pv : Value) (older : List PanicEntry) (w : World) (x0 x1 x2 x3 : Value) (h : Blk w g 46 #[x0, x1, x2, x3]) :
    CallsD Try.prog 84 #[.pointer (some ⟨g, 0, none⟩)] (.panicking ({ v := .iface u pv, recovered := false } :: older)) w fun e u' w' =>
      e = .returned (.tuple #[]) ∧ u' = .panicking ({ v := .iface u pv, recovered := true } :: older) ∧ Blk w' g 46 #[.int .i64 0, .bool false, .slice none 0 0, .bool true] ∧ Chg (· = g) w w' := by
  have c0 : w.cell? ⟨g, 0, none⟩ = some x0 := by rw [h.cell]; rfl
  have c1 : w.cell? ⟨g, 1, none⟩ = some x1 := by rw [h.cell]; rfl
  have c2 : w.cell? ⟨g, 2, none⟩ = some x2 := by rw [h.cell]; rfl
  have c3 : w.cell? ⟨g, 3, none⟩ = some x3 := by rw [h.cell]; rfl
  have f0 := h.frozen 0
  have f1 := h.frozen 1
  have f2 := h.frozen 2
  have f3 := h.frozen 3
  refine callsD_of_wpS Try.func84 rfl fun c₀ cs hu => ?_
  apply wpS_seq
  apply wpS_region
  simp [wpOpsS, go_sem, recoverD, hu, Try.ntmps84, Exit.thenS]
  refine wpS_cond (t := true) (by simp [Act.eval, Array.replicate]) ?_
  simp only [if_true]
  apply wpS_region
  simp [wpOpsS, go_sem, c0, c1, c2, c3, f0, f1, f2, f3, bodyPostS, results, Try.results84]
  exact ⟨(((h.set_ 0 (.int .i64 0)).set_ 1 (.bool false)).set_ 2 (.slice none 0 0)).set_ 3 (.bool true), ((((Chg.refl (· = g) w).setCell (p := ⟨g, 0, none⟩) (fun _ => rfl) _).setCell (p := ⟨g, 1, none⟩) (fun _ => rfl) _).setCell (p := ⟨g, 2, none⟩) (fun _ => rfl) _).setCell (p := ⟨g, 3, none⟩) (fun _ => rfl) _⟩

/-- A machine behind a closure: its state in memory, in the blocks F, and what a step does. -/
structure Mach (σ : Type) where
  B : Nat
  id : Nat
  caps : Array Value
  enters : ∀ (args : Array Value) (w : World), (callFunc id args).run Try.prog w = .ok (.enter id args) w
  Inv : World → σ → (Nat → Prop) → Prop
  stp : σ → StepD → σ × Option AnsD
  good : σ → StepD → Prop
  keep : ∀ {w w' : World} {x : σ} {F S : Nat → Prop}, Inv w x F → Chg S w w' → (∀ i, F i → ¬ S i) → Inv w' x F
  lt : ∀ {w : World} {x : σ} {F : Nat → Prop}, Inv w x F → ∀ i, F i → B ≤ i ∧ i < w.heap.size

/-- The blocks of int rows that no state has. -/
def Free (w : World) (F : Nat → Prop) (i : Nat) : Prop := ¬ F i ∧ ∃ cs, Blk w i 3 cs

/-- What a step of a machine hands back. -/
def Stepped {σ : Type} (M : Mach σ) (x : σ) (F : Nat → Prop) (s : StepD) (pan : World → Ending → World → Prop) (w : World) (e : Ending) (w' : World) : Prop :=
  (∃ a A c F', (M.stp x s).2 = some a ∧ a.panicked = false ∧ e = .returned (.agg (a.cells (.slice A a.list.length c))) ∧ SliceIs w' (Free w' F') A a.list.length c a.list ∧ M.Inv w' (M.stp x s).1 F' ∧ (∀ i, F' i → F i ∨ w.heap.size ≤ i) ∧ Chg F w w') ∨
  ((M.stp x s).2 = none ∧ Chg F w w' ∧ pan w e w')

/-- A machine's closure does what it says. -/
def Mach.Ok {σ : Type} (M : Mach σ) : Prop := ∀ (x : σ) (F : Nat → Prop) (s : StepD) (LA : Option Addr) (lc : Nat) (w : World), M.good x s → M.Inv w x F → SliceIs w (fun i => i < w.heap.size) LA s.list.length lc s.list →
  Calls Try.prog M.id (#[.agg (s.cells (.slice LA s.list.length lc))] ++ M.caps) w (Stepped M x F s (fun _ e _ => ∃ u pv, e = .panicked [{ v := .iface u pv, recovered := false }]) w)

/-- The answer of a step that panicked. -/
def panAns : AnsD := ⟨0, false, [], true⟩

set_option maxRecDepth 100000 in
set_option maxHeartbeats 1000000 in
theorem one_any {σ : Type} (M : Mach σ) (hM : M.Ok) (x : σ) (F : Nat → Prop) (s : StepD) (LA : Option Addr) (lc fb : Nat) (w : World) (hgd : M.good x s) (hi : M.Inv w x F) (hs : SliceIs w (fun i => i < w.heap.size) LA s.list.length lc s.list) (hf : Blk w fb 75 #[.func (.func M.id) #[] M.caps]) :
    Calls Try.prog 83 #[.agg (s.cells (.slice LA s.list.length lc)), .pointer (some ⟨fb, 0, none⟩)] w (Stepped M x F s (fun _ e _ => e = .returned (.agg (panAns.cells (.slice none 0 0)))) w) := by
  have hmf : ∀ (fn : Fn) (first cap : Array Value) (w : World), (Instr.makeFunc fn first cap).run Try.prog w = .ok (.func fn first cap) w := fun _ _ _ _ => rfl
  have HI := hide hi
  have HS := hide hs
  have HF := hide hf
  have hfc : w.cell? ⟨fb, 0, none⟩ = some (.func (.func M.id) #[] M.caps) := by rw [hf.cell]; rfl
  have hfl := hf.lt
  have hM' := hide hM
  have hent := M.enters
  clear hi hs hf hM
  unfold StepD.cells
  go_enter_defers Try.func83, Try.ntmps83
  go_wp2
  have hb2 : Below w.heap.size w ((w.alloc (.cells (s.cells (.slice LA s.list.length lc)) 29)).alloc (.cells #[.int .i64 0, .bool false, .slice none 0 0, .bool false] 46)) := ((Below.refl _ _).alloc (Nat.le_refl _) _).alloc (by simp) _
  have hB2 : Hid (Blk ((w.alloc (.cells (s.cells (.slice LA s.list.length lc)) 29)).alloc (.cells #[.int .i64 0, .bool false, .slice none 0 0, .bool false] 46)) (w.heap.size + 1) 46 #[.int .i64 0, .bool false, .slice none 0 0, .bool false]) := Blk.new_ _ _ _ (by simp)
  have hcall := hM'.out x F s LA lc _ hgd (M.keep HI.out (Chg.ofBelow hb2 (fun _ => False)) (fun _ _ h => h)) ((HS.out.below hb2).more (fun _ _ hi => Nat.lt_of_lt_of_le hi hb2.size))
  have hsz : Hid (((w.alloc (.cells (s.cells (.slice LA s.list.length lc)) 29)).alloc (.cells #[.int .i64 0, .bool false, .slice none 0 0, .bool false] 46)).heap.size = w.heap.size + 2) := by show _ = _; simp
  have HB2 := hide hb2
  have hnF : Hid (¬ F (w.heap.size + 1)) := fun h => by have := (M.lt HI.out _ h).2; omega
  clear hb2
  unfold StepD.cells at *
  generalize hW : (w.alloc (.cells #[.int .i64 s.what, .int .i64 s.which, .int .i64 s.index, .int .i64 s.bit, .int .i64 s.n, .int .i64 s.key, .int .i64 s.value, .slice LA s.list.length lc] 29)).alloc (.cells #[.int .i64 0, .bool false, .slice none 0 0, .bool false] 46) = W at *
  clear hW
  refine hcall.mono ?_
  clear hcall
  rintro e w3 (⟨a, A, c, F', hst, hpn, rfl, hsl, hinv, hF', hcg⟩ | ⟨hst, hcg, u, pv, rfl⟩)
  · have hb3 := hB2.out.chg hcg hnF.out
    have k0 : w3.cell? ⟨w.heap.size + 1, 0, none⟩ = some (.int .i64 0) := by rw [hb3.cell]; rfl
    have k1 : w3.cell? ⟨w.heap.size + 1, 1, none⟩ = some (.bool false) := by rw [hb3.cell]; rfl
    have k2 : w3.cell? ⟨w.heap.size + 1, 2, none⟩ = some (.slice none 0 0) := by rw [hb3.cell]; rfl
    have k3 : w3.cell? ⟨w.heap.size + 1, 3, none⟩ = some (.bool false) := by rw [hb3.cell]; rfl
    have f0 := hb3.frozen 0
    have f1 := hb3.frozen 1
    have f2 := hb3.frozen 2
    have f3 := hb3.frozen 3
    have HB3 := hide hb3
    have HST := hide hst
    have HPN := hide hpn
    have HSL := hide hsl
    have HINV := hide hinv
    have HF' := hide hF'
    have HCG := hide hcg
    clear hb3 hst hpn hsl hinv hF' hcg
    unfold AnsD.cells
    go_wp2
    refine leaves_cons (f := 84) (args := #[.pointer (some ⟨w.heap.size + 1, 0, none⟩)]) (by simp) (by simp [go_sem]) ?_
    refine (catch_idle _ _).mono ?_
    rintro e u' w'' ⟨rfl, rfl, rfl⟩
    have hb4 : Blk ((((w3.setCell ⟨w.heap.size + 1, 0, none⟩ (.int .i64 a.n)).setCell ⟨w.heap.size + 1, 1, none⟩ (.bool a.ok)).setCell ⟨w.heap.size + 1, 2, none⟩ (.slice A a.list.length c)).setCell ⟨w.heap.size + 1, 3, none⟩ (.bool a.panicked)) (w.heap.size + 1) 46 #[.int .i64 a.n, .bool a.ok, .slice A a.list.length c, .bool a.panicked] := (((HB3.out.set_ 0 _).set_ 1 _).set_ 2 _).set_ 3 _
    have hc4 : Chg (· = w.heap.size + 1) w3 ((((w3.setCell ⟨w.heap.size + 1, 0, none⟩ (.int .i64 a.n)).setCell ⟨w.heap.size + 1, 1, none⟩ (.bool a.ok)).setCell ⟨w.heap.size + 1, 2, none⟩ (.slice A a.list.length c)).setCell ⟨w.heap.size + 1, 3, none⟩ (.bool a.panicked)) := ((((Chg.refl (· = w.heap.size + 1) w3).setCell (p := ⟨w.heap.size + 1, 0, none⟩) (fun _ => rfl) _).setCell (p := ⟨w.heap.size + 1, 1, none⟩) (fun _ => rfl) _).setCell (p := ⟨w.heap.size + 1, 2, none⟩) (fun _ => rfl) _).setCell (p := ⟨w.heap.size + 1, 3, none⟩) (fun _ => rfl) _
    generalize (((w3.setCell ⟨w.heap.size + 1, 0, none⟩ (.int .i64 a.n)).setCell ⟨w.heap.size + 1, 1, none⟩ (.bool a.ok)).setCell ⟨w.heap.size + 1, 2, none⟩ (.slice A a.list.length c)).setCell ⟨w.heap.size + 1, 3, none⟩ (.bool a.panicked) = w4 at *
    have j0 : w4.cell? ⟨w.heap.size + 1, 0, none⟩ = some (.int .i64 a.n) := by rw [hb4.cell]; rfl
    have j1 : w4.cell? ⟨w.heap.size + 1, 1, none⟩ = some (.bool a.ok) := by rw [hb4.cell]; rfl
    have j2 : w4.cell? ⟨w.heap.size + 1, 2, none⟩ = some (.slice A a.list.length c) := by rw [hb4.cell]; rfl
    have j3 : w4.cell? ⟨w.heap.size + 1, 3, none⟩ = some (.bool a.panicked) := by rw [hb4.cell]; rfl
    simp [Leaves, settle, results, Try.results83, go_sem, j0, j1, j2, j3]
    have hnF' : ¬ F' (w.heap.size + 1) := fun h => (HF'.out _ h).elim hnF.out (fun h => by have := hsz.out; omega)
    refine Or.inl ⟨a, A, c, F', HST.out, HPN.out, rfl, ?_, ?_, ?_, ?_⟩
    · have h1 : SliceIs w4 (Free w3 F') A a.list.length c a.list := HSL.out.chg hc4 (fun i _ hk e => by
        obtain ⟨_, cs, hcs⟩ := hk
        exact hcs.ne_ HB3.out (by decide) e)
      refine h1.more (fun i _ hk => ⟨hk.1, ?_⟩)
      obtain ⟨cs, hcs⟩ := hk.2
      exact ⟨cs, hcs.chg hc4 (fun e => hcs.ne_ HB3.out (by decide) e)⟩
    · exact M.keep HINV.out hc4 (fun i hi e => hnF' (e ▸ hi))
    · exact fun i hi => (HF'.out i hi).imp id (fun h => by have := hsz.out; omega)
    · exact ((Chg.ofBelow HB2.out F).trans HCG.out (fun _ _ h => h)).trans hc4 (fun i hi e => absurd e (by omega))
  · have hb3 := hB2.out.chg hcg hnF.out
    have HB3 := hide hb3
    have HST := hide hst
    have HCG := hide hcg
    clear hb3 hst hcg
    go_wp2
    refine leaves_cons (f := 84) (args := #[.pointer (some ⟨w.heap.size + 1, 0, none⟩)]) (by simp) (by simp [go_sem]) ?_
    refine (catch_panicking (w.heap.size + 1) u pv [] w3 _ _ _ _ HB3.out).mono ?_
    rintro e u' w4 ⟨rfl, rfl, hb4, hc4⟩
    have j0 : w4.cell? ⟨w.heap.size + 1, 0, none⟩ = some (.int .i64 0) := by rw [hb4.cell]; rfl
    have j1 : w4.cell? ⟨w.heap.size + 1, 1, none⟩ = some (.bool false) := by rw [hb4.cell]; rfl
    have j2 : w4.cell? ⟨w.heap.size + 1, 2, none⟩ = some (.slice none 0 0) := by rw [hb4.cell]; rfl
    have j3 : w4.cell? ⟨w.heap.size + 1, 3, none⟩ = some (.bool true) := by rw [hb4.cell]; rfl
    simp [Leaves, settle, results, Try.results83, go_sem, j0, j1, j2, j3]
    exact Or.inr ⟨HST.out, ((Chg.ofBelow HB2.out F).trans HCG.out (fun _ _ h => h)).trans hc4 (fun i hi e => absurd e (by omega)), rfl⟩
end Go.Proofs.Ytammpllfmbmdmaa
