/- The plain law of FnMaps: lists of pairs answer as the hash maps do. No condition. -/
import Derived.Test.YtammpllfmbmdmaaMlaw
import Derived.Test.YtammpllfmbmdmaaLw
import Derived.Test.YtammpllfmbmdmaaSp5
namespace Go.Proofs.Ytammpllfmbmdmaa
open Go.RowKit

theorem putS_eq (k v : Int) : ∀ l : List (Int × Int), (l.map (·.1)).Nodup → putS l k v = putL l k v
  | [], _ => by simp [putS, putL, findI]
  | (a, b) :: l, h => by
    obtain ⟨h1, h2⟩ := List.nodup_cons.1 (show (a :: l.map (·.1)).Nodup from h)
    have ih := putS_eq k v l h2
    by_cases hk : a = k
    · subst hk
      have e1 : findI ((a, b) :: l) a = some 0 := by rw [findI_cons]; simp
      have e2 : l.map (upd a v) = l := map_upd_id (fun q hq e => h1 (List.mem_map.2 ⟨q, hq, e⟩))
      unfold putS putL
      rw [e1]
      simp [e2, upd]
    · have e1 : putS ((a, b) :: l) k v = (a, b) :: putS l k v := by
        unfold putS
        rw [findI_cons, if_neg (show ¬ (a, b).1 = k from hk)]
        cases findI l k <;> simp
      have hk2 : ¬ k = a := fun e => hk e.symm
      have e2 : putL ((a, b) :: l) k v = (a, b) :: putL l k v := by
        unfold putL
        by_cases hm : k ∈ l.map (·.1)
        · rw [if_pos hm, if_pos (by simp only [List.map_cons, List.mem_cons]; exact Or.inr hm), List.map_cons, upd_ne (show (a, b).1 ≠ k from hk)]
        · rw [if_neg hm, if_neg (by simp only [List.map_cons, List.mem_cons]; exact fun h => h.elim hk2 hm)]; rfl
      rw [e1, e2, ih]

theorem delS_eq (k : Int) : ∀ l : List (Int × Int), (l.map (·.1)).Nodup → delS l k = delL l k
  | [], _ => by simp [delS, delL, findI]
  | (a, b) :: l, h => by
    obtain ⟨h1, h2⟩ := List.nodup_cons.1 (show (a :: l.map (·.1)).Nodup from h)
    have ih := delS_eq k l h2
    by_cases hk : a = k
    · subst hk
      have e1 : findI ((a, b) :: l) a = some 0 := by rw [findI_cons]; simp
      have e2 : l.filter (fun q => !decide (q.1 = a)) = l := del_id (fun q hq e => h1 (List.mem_map.2 ⟨q, hq, e⟩))
      unfold delS delL
      rw [e1]
      simp only [List.take_zero, List.nil_append, Nat.zero_add, List.drop_succ_cons, List.drop_zero]
      rw [List.filter_cons_of_neg (by simp), e2]
    · have e1 : delS ((a, b) :: l) k = (a, b) :: delS l k := by
        unfold delS
        rw [findI_cons, if_neg (show ¬ (a, b).1 = k from hk)]
        cases findI l k <;> simp
      have e2 : delL ((a, b) :: l) k = (a, b) :: delL l k := by
        unfold delL
        rw [List.filter_cons_of_pos (by simp [hk])]
      rw [e1, e2, ih]

theorem foldS_eq : ∀ (o c : List (Int × Int)), (c.map (·.1)).Nodup → o.foldl (fun l q => putS l q.1 q.2) c = putAll c o
  | [], _, _ => rfl
  | q :: o, c, h => by
    show o.foldl (fun l q => putS l q.1 q.2) (putS c q.1 q.2) = putAll (putL c q.1 q.2) o
    rw [putS_eq _ _ _ h]
    exact foldS_eq o _ (nodup_put _ _ h)

/-- The answer behind the law's second loop. -/
def fixA (s : StepD) (a : AnsD) : AnsD := if s.what = 1 ∧ a.ok = false then { a with n := 0 } else a

theorem spC_eq {md : Int} {c o : List (Int × Int)} {s : StepD} (hc : (c.map (·.1)).Nodup) (hf : (spC c o s).2.2 = true) : (spC c o s).1 = (stpM md c o s).1 ∧ (spC c o s).2.1 = fixA s (stpM md c o s).2 := by
  unfold spC at *
  unfold stpM fixA
  by_cases g0 : s.what = 0
  · simp [g0, putS_eq _ _ _ hc]
  by_cases g1 : s.what = 1
  · cases hl : c.lookup s.key <;> simp [g1, zeroAns]
  by_cases g2 : s.what = 2
  · simp [g2, delS_eq _ _ hc]
  by_cases g3 : s.what = 3
  · simp [g3]
  by_cases g4 : s.what = 4
  · simp [g4]
  by_cases g5 : s.what = 5
  · simp [g5]
  by_cases g6 : s.what = 6
  · simp [g6, foldS_eq _ _ hc]
  by_cases g8 : s.what = 8
  · simp [g8]
  · simp [g0, g1, g2, g3, g4, g5, g6, g8] at hf

theorem specM_eq {md : Int} {x : Two} {s : StepD} (h0 : (x.1.map (·.1)).Nodup) (h1 : (x.2.map (·.1)).Nodup) (hf : (specM x s).2.2 = true) : (specM x s).1 = (stepM md x s).1 ∧ (specM x s).2.1 = fixA s (stepM md x s).2 := by
  unfold specM at *
  unfold stepM
  by_cases g0 : s.which = 0
  · rw [if_pos g0] at hf ⊢
    rw [if_pos g0]
    exact spC_eq h0 hf
  by_cases g1 : s.which = 1
  · rw [if_neg g0, if_pos g1] at hf ⊢
    rw [if_neg g0, if_pos g1]
    have h := spC_eq (md := md) (o := x.1) h1 hf
    exact ⟨by rw [h.1], h.2⟩
  · rw [if_neg g0, if_neg g1] at hf ⊢
    rw [if_neg g0, if_neg g1]
    refine ⟨rfl, ?_⟩
    unfold fixA
    split <;> rfl

/-- A step of the law's machine. -/
def stpF (md : Int) (x : Two) (s : StepD) : Two × Option AnsD := ((stepM md x s).1, some (fixA s (stepM md x s).2))

theorem stF_end (md : Int) : ∀ (S : List StepD) (x : Two), stF (stpF md) x S = endM md x S
  | [], _ => rfl
  | _ :: S, _ => stF_end md S _

def fixes (S : List StepD) (L : List AnsD) : List AnsD := List.zipWith fixA S L

theorem outF_fix (md : Int) : ∀ (S : List StepD) (x : Two), outF (stpF md) x S = fixes S (outsM md x S)
  | [], _ => rfl
  | s :: S, x => by
    rw [outF_some (f := stpF md) (x := x) (s := s) (S := S) (a := fixA s (stepM md x s).2) rfl, outF_fix md S]
    rfl

theorem okF_stp (md : Int) : ∀ (S : List StepD) (x : Two), okF (stpF md) x S
  | [], _ => trivial
  | _ :: S, _ => ⟨rfl, okF_stp md S _⟩

theorem goodF_true {σ : Type} {f : σ → StepD → σ × Option AnsD} : ∀ (S : List StepD) (x : σ), goodF f (fun _ _ => True) x S
  | [], _ => trivial
  | _ :: S, _ => ⟨trivial, fun _ => goodF_true S _⟩

end Go.Proofs.Ytammpllfmbmdmaa
