/- The plain law of steps over any state, and what the laws' loops hold. -/
import Derived.Test.YtammpllfmbmdmaaWk
namespace Go.Proofs.Ytammpllfmbmdmaa
open Go.RowKit

section
variable {σ : Type} (f : σ → StepD → σ × Option AnsD) (G : σ → StepD → Prop)
/-- The state behind steps. -/
def stF : σ → List StepD → σ
  | x, [] => x
  | x, s :: S => stF (f x s).1 S
/-- The answers of steps, up to one that panics. -/
def outF : σ → List StepD → List AnsD
  | _, [] => []
  | x, s :: S => match (f x s).2 with
    | some a => a :: outF (f x s).1 S
    | none => [panAns]
/-- None of the steps panics. -/
def okF : σ → List StepD → Prop
  | _, [] => True
  | x, s :: S => (f x s).2.isSome ∧ okF (f x s).1 S
/-- The steps are such as the machine knows. -/
def goodF : σ → List StepD → Prop
  | _, [] => True
  | x, s :: S => G x s ∧ ((f x s).2.isSome → goodF (f x s).1 S)
variable {f G}
theorem stF_snoc (s : StepD) : ∀ (S : List StepD) (x : σ), stF f x (S ++ [s]) = (f (stF f x S) s).1
  | [], _ => rfl
  | _ :: S, _ => stF_snoc s S _
theorem okF_snoc (s : StepD) : ∀ (S : List StepD) (x : σ), okF f x S → (f (stF f x S) s).2.isSome → okF f x (S ++ [s])
  | [], _, _, h => ⟨h, trivial⟩
  | _ :: S, _, h, h2 => ⟨h.1, okF_snoc s S _ h.2 h2⟩
theorem goodF_snoc (s : StepD) : ∀ (S : List StepD) (x : σ), goodF f G x S → (okF f x S → G (stF f x S) s) → goodF f G x (S ++ [s])
  | [], _, _, h => ⟨h trivial, fun _ => trivial⟩
  | _ :: S, _, h, h2 => ⟨h.1, fun h3 => goodF_snoc s S _ (h.2 h3) (fun h4 => h2 ⟨h3, h4⟩)⟩
theorem outF_some {x : σ} {s : StepD} {S : List StepD} {a : AnsD} (h : (f x s).2 = some a) : outF f x (s :: S) = a :: outF f (f x s).1 S := by
  show (match (f x s).2 with | some a => a :: outF f (f x s).1 S | none => [panAns]) = _
  rw [h]
theorem outF_none {x : σ} {s : StepD} {S : List StepD} (h : (f x s).2 = none) : outF f x (s :: S) = [panAns] := by
  show (match (f x s).2 with | some a => a :: outF f (f x s).1 S | none => [panAns]) = _
  rw [h]
theorem outF_snoc (s : StepD) : ∀ (S : List StepD) (x : σ), okF f x S → outF f x (S ++ [s]) = outF f x S ++ [((f (stF f x S) s).2).getD panAns]
  | [], x, _ => by
    show outF f x (s :: []) = [((f x s).2).getD panAns]
    cases h : (f x s).2 with
    | some a => rw [outF_some h]; rfl
    | none => rw [outF_none h]; rfl
  | t :: S, x, h => by
    obtain ⟨a, ha⟩ := Option.isSome_iff_exists.1 h.1
    show outF f x (t :: (S ++ [s])) = outF f x (t :: S) ++ [((f (stF f (f x t).1 S) s).2).getD panAns]
    rw [outF_some ha, outF_some ha, outF_snoc s S _ h.2]; rfl
theorem outF_len : ∀ (S : List StepD) (x : σ), okF f x S → (outF f x S).length = S.length
  | [], _, _ => rfl
  | t :: S, x, h => by
    obtain ⟨a, ha⟩ := Option.isSome_iff_exists.1 h.1
    rw [outF_some ha, List.length_cons, outF_len S _ h.2, List.length_cons]
end

theorem Mach.outs_eq {σ : Type} (M : Mach σ) : ∀ (S : List StepD) (x : σ), M.outs x S = outF M.stp x S
  | [], _ => rfl
  | s :: S, x => by
    cases h : (M.stp x s).2 with
    | some a => rw [Mach.outs_some h, outF_some h, Mach.outs_eq M S]
    | none => rw [Mach.outs_none h, outF_none h]
theorem Mach.good_eq {σ : Type} (M : Mach σ) : ∀ (S : List StepD) (x : σ), goodF M.stp M.good x S → M.allGood x S
  | [], _, _ => trivial
  | _ :: S, _, h => ⟨h.1, fun h2 => Mach.good_eq M S _ (h.2 h2)⟩

/-- Old blocks, and rows of ints. -/
def OldRow (w0 w : World) (i : Nat) : Prop := i < w0.heap.size ∨ Row3 w i

/-- The answers that a law expects, behind steps. -/
structure LawW {σ : Type} (f : σ → StepD → σ × Option AnsD) (G : σ → StepD → Prop) (x0 : σ) (S : List StepD) (w wr : World) (j : Nat) (v : Value) (P : List (AnsD × Value)) : Prop where
  want : OutRow wr (OldRow w wr) 31 w.heap.size v P
  len : P.length = j
  eq : P.map (·.1) = outF f x0 (S.take j)
  good : goodF f G x0 (S.take j)
  bel : Below w.heap.size w wr

/-- What a law's loop holds. -/
structure LawI {σ : Type} (f : σ → StepD → σ × Option AnsD) (G : σ → StepD → Prop) (x0 : σ) (S : List StepD) (w wr : World) (j : Nat) (v : Value) (P : List (AnsD × Value)) : Prop extends LawW f G x0 S w wr j v P where
  ok : okF f x0 (S.take j)

section
variable {σ : Type} {f : σ → StepD → σ × Option AnsD} {G : σ → StepD → Prop} {x0 : σ} {S : List StepD} {w wr w3 w6 : World} {j : Nat} {v v' : Value} {P : List (AnsD × Value)}

theorem lawI_start (hb : Below w.heap.size w wr) : LawI f G x0 S w wr 0 (.slice none 0 0) [] :=
  { want := ⟨World.ownsRow_nil _ _ _ _, fun p hp => by cases hp⟩, len := rfl, eq := rfl, good := trivial, bel := hb, ok := trivial }

theorem OldRow.below {w w3 wr : World} (hb : Below wr.heap.size wr w3) (i : Nat) (h : OldRow w wr i) : OldRow w w3 i :=
  h.imp id (fun ⟨cs, h⟩ => ⟨cs, h.below hb h.lt⟩)
theorem OldRow.chg {S : Nat → Prop} {w w3 w6 : World} (hc : Chg S w3 w6) (hS : ∀ i cs, Blk w3 i 3 cs → ¬ S i) (i : Nat) (h : OldRow w w3 i) : OldRow w w6 i :=
  h.imp id (fun ⟨cs, h⟩ => ⟨cs, h.chg hc (hS i cs h)⟩)

theorem LawW.below (h : LawW f G x0 S w wr j v P) (hb : Below wr.heap.size wr w3) : LawW f G x0 S w w3 j v P :=
  { want := ⟨own_chg h.want.own (Chg.ofBelow hb (fun _ => False)) (fun _ _ h => h), fun p hp => by
      obtain ⟨LA, lc, e, hs⟩ := h.want.lists p hp
      exact ⟨LA, lc, e, (hs.below hb).more (fun i _ h => OldRow.below hb i h)⟩⟩
    len := h.len, eq := h.eq, good := h.good, bel := h.bel.trans (hb.mono h.bel.size) }

/-- One more answer. -/
theorem LawI.stepW (h : LawI f G x0 S w wr j v P) {s : StepD} {a : AnsD} {LA : Option Addr} {lc : Nat} (ht : S.take (j + 1) = S.take j ++ [s]) (hf : ((f (stF f x0 (S.take j)) s).2).getD panAns = a) (hg : G (stF f x0 (S.take j)) s) (hb : Below wr.heap.size wr w3)
    (hsl : SliceIs w3 (OldRow w w3) LA a.list.length lc a.list) (hown : w6.ownsRow w.heap.size 31 4 v' (P.length + 1) (ansFlat P ++ [.int .i64 a.n, .bool a.ok, .slice LA a.list.length lc, .bool a.panicked])) (hc : Chg (fun g => v.ownBlock = some g) w3 w6) :
    LawW f G x0 S w w6 (j + 1) v' (P ++ [(a, .slice LA a.list.length lc)]) := by
  have h3 := h.toLawW.below hb
  have h31 : ∀ i cs, Blk w3 i 3 cs → ¬ v.ownBlock = some i := fun i cs hbk e => by
    obtain ⟨cs', hb'⟩ := own_blk h3.want.own e
    exact hbk.ne_ hb' (by decide) rfl
  have hK : ∀ i, i < w3.heap.size → OldRow w w3 i → ¬ v.ownBlock = some i := fun i _ hk e => hk.elim (fun hlt => by have := (h3.want.own.lt i e).1; omega) (fun ⟨cs, hb⟩ => h31 i cs hb e)
  have hmv : ∀ {A : Option Addr} {n c : Nat} {xs : List Int}, SliceIs w3 (OldRow w w3) A n c xs → SliceIs w6 (OldRow w w6) A n c xs := fun hs => (hs.chg hc hK).more (fun i _ h => OldRow.chg hc h31 i h)
  refine { want := ⟨by rw [ansFlat_snoc, List.length_append]; exact hown, fun p hp => ?_⟩, len := by rw [List.length_append, h.len]; rfl, eq := ?_, good := ?_, bel := ?_ }
  · rcases List.mem_append.1 hp with hp | hp
    · obtain ⟨LA', lc', e, hs⟩ := h3.want.lists p hp
      exact ⟨LA', lc', e, hmv hs⟩
    · rw [List.mem_singleton.1 hp]
      exact ⟨LA, lc, rfl, hmv hsl⟩
  · rw [List.map_append, h.eq, ht, outF_snoc s _ _ h.ok, hf]; rfl
  · rw [ht]; exact goodF_snoc s _ _ h.good (fun _ => hg)
  · exact h3.bel.trans (hc.below h3.bel.size (fun i hi => (h3.want.own.lt i hi).1))

/-- .. and the loop goes on. -/
theorem LawI.step (h : LawI f G x0 S w wr j v P) {s : StepD} {a : AnsD} {LA : Option Addr} {lc : Nat} (ht : S.take (j + 1) = S.take j ++ [s]) (hf : (f (stF f x0 (S.take j)) s).2 = some a) (hg : G (stF f x0 (S.take j)) s) (hb : Below wr.heap.size wr w3)
    (hsl : SliceIs w3 (OldRow w w3) LA a.list.length lc a.list) (hown : w6.ownsRow w.heap.size 31 4 v' (P.length + 1) (ansFlat P ++ [.int .i64 a.n, .bool a.ok, .slice LA a.list.length lc, .bool a.panicked])) (hc : Chg (fun g => v.ownBlock = some g) w3 w6) :
    LawI f G x0 S w w6 (j + 1) v' (P ++ [(a, .slice LA a.list.length lc)]) :=
  { toLawW := h.stepW ht (by rw [hf]; rfl) hg hb hsl hown hc, ok := by rw [ht]; exact okF_snoc s _ _ h.ok (by rw [hf]; rfl) }
end
end Go.Proofs.Ytammpllfmbmdmaa
