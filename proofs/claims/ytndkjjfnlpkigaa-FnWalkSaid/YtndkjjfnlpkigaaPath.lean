/- The walks of the path functions: Path's equality, dfsRecursive, DFSPath, impl.Path. -/
import Derived.Test.YtndkjjfnlpkigaaGr
namespace Go.Proofs.Ytndkjjfnlpkigaa
open Go.RowKit
open Go.ChangeMaps (setBlock)

theorem run_equalIn_iface_int {P : Program} (w : World) (d : Nat) {ti tn : TypeId} {ms : Array (String × TypeId)} {i : TypeInfo} {k : IntKind} (a b : Int)
    (hi : P.underlying ti = some (.interface ms)) (hn : P.underlying tn = some (.int k)) (hinfo : P.info? tn = some i) (hcomp : i.comparable = true) :
    (Op.equalIn (d + 2) ti (.iface tn (.int k a)) (.iface tn (.int k b))).run P w = .ok (a == b) w := by
  simp [Op.equalIn, run_underlying hi, run_underlying hn, typeInfo, hinfo, hcomp]

theorem run_eql_iface_int {P : Program} (w : World) {ti tn : TypeId} {ms : Array (String × TypeId)} {i : TypeInfo} {k : IntKind} (a b : Int)
    (hi : P.underlying ti = some (.interface ms)) (hn : P.underlying tn = some (.int k)) (hinfo : P.info? tn = some i) (hcomp : i.comparable = true) :
    (binOp .eql ti (.iface tn (.int k a)) (.iface tn (.int k b))).run P w = .ok (.bool (a == b)) w := by
  simp only [binOp]
  simp [Op.equal, Op.maxDepth, run_equalIn_iface_int w 9998 a b hi hn hinfo hcomp]

theorem info3 : (Try.prog.info? 3).map (fun i => (i.zero, i.size, i.bytes, i.comparable)) = some (some (.int .i64 0), 1, 8, true) := by kernel_rfl

theorem eql_T (a b : Int) (w : World) : (binOp .eql 44 (.iface 3 (.int .i64 a)) (.iface 3 (.int .i64 b))).run Try.prog w = .ok (.bool (a == b)) w := by
  have h := info3
  cases hi : Try.prog.info? 3 with
  | none => rw [hi] at h; cases h
  | some i =>
    rw [hi] at h
    have hc : i.comparable = true := by simp at h; exact h.2.2.2
    exact run_eql_iface_int w a b Try.underlying44 Try.underlying3 hi hc

theorem patheq_any (a b : Int) (w : World) :
    Calls Try.prog 17 #[tval a, tval b] w fun e w' => e = .returned (.bool (a == b)) ∧ w = w' := by
  have h := eql_T a b w
  unfold tval
  go_enter Try.func17, Try.ntmps17
  go_wp2
  go_ret
  exact ⟨rfl, rfl⟩

theorem meth_visited (a : Addr) (w : World) : (method 188 40 (.pointer (some a)) "Visited").run Try.prog w = .ok (49, .pointer (some a)) w := by kernel_rfl
theorem meth_edges (a : Addr) (w : World) : (method 188 40 (.pointer (some a)) "Edges").run Try.prog w = .ok (48, .pointer (some a)) w := by kernel_rfl

/-- What a call of dfsRecursive at u finds, S being marked before and S' after: no way to z, or a way, told backwards. -/
structure Found (G : List (List Int)) (z : Int) (S : List Int) (u : Int) (S' xs : List Int) : Prop where
  sub : ∀ x ∈ S, x ∈ S'
  here : u ∈ S'
  none_ : xs = [] → ∀ x ∈ S', x ∉ S → ∀ y ∈ adj G x, y ∈ S' ∧ y ≠ z
  first : xs ≠ [] → xs.head? = some z
  last : xs ≠ [] → xs.getLast? = some u
  two : xs ≠ [] → 2 ≤ xs.length
  chain : ∀ i a b, xs[i]? = some a → xs[i + 1]? = some b → a ∈ adj G b

/-- How many of the nodes U are not marked. -/
def fresh (U S : List Int) : Nat := (U.filter (fun x => !decide (x ∈ S))).length

def DfsPost (M : Nat) (G : List (List Int)) (z : Int) (U S : List Int) (u : Int) (PA : Option Addr) (w : World) (e : Ending) (w' : World) : Prop :=
  ∃ v xs S', e = .returned v ∧ ((xs = [] ∧ v = .slice PA 0 0) ∨ (xs ≠ [] ∧ w'.ownsRow w.heap.size 44 1 v xs.length (tvals xs))) ∧ Marks w' M S' ∧ Chg (· = M) w w' ∧ Found G z S u S' xs ∧ xs.length ≤ fresh U S + 1

theorem fresh_lt {U S T : List Int} {u : Int} (hu : u ∈ U) (hS : u ∉ S) (hT : u ∈ T) (hST : ∀ x ∈ S, x ∈ T) : fresh U T < fresh U S := by
  unfold fresh
  induction U with
  | nil => cases hu
  | cons x U ih =>
    have mono : ∀ V : List Int, (V.filter (fun x => !decide (x ∈ T))).length ≤ (V.filter (fun x => !decide (x ∈ S))).length := by
      intro V
      induction V with
      | nil => simp
      | cons y V ihV =>
        simp only [List.filter_cons]
        by_cases h1 : y ∈ T
        · simp only [h1, decide_true, Bool.not_true, Bool.false_eq_true, if_false]
          split
          · simp; omega
          · exact ihV
        · have h2 : y ∉ S := fun h => h1 (hST y h)
          simp [h1, h2]; exact ihV
    rcases List.mem_cons.1 hu with rfl | hu
    · have := mono U
      simp only [List.filter_cons, hS, hT, decide_true, decide_false]
      simp
      omega
    · have := ih hu
      simp only [List.filter_cons]
      by_cases h1 : x ∈ T
      · simp only [h1, decide_true, Bool.not_true, Bool.false_eq_true, if_false]
        split
        · simp; omega
        · exact this
      · have h2 : x ∉ S := fun h => h1 (hST x h)
        simp [h1, h2]; exact this

theorem fresh_le (U S : List Int) : fresh U S ≤ U.length := List.length_filter_le _ _

theorem fresh_pos {U S : List Int} {u : Int} (hu : u ∈ U) (hS : u ∉ S) : 0 < fresh U S := Nat.lt_of_le_of_lt (Nat.zero_le _) (fresh_lt hu hS (List.mem_cons_self (a := u) (l := S)) (fun _ hx => List.mem_cons_of_mem _ hx))

set_option maxHeartbeats 1000000 in
theorem dfs_seen (gb M : Nat) (A PA : Option Addr) (kk c : Nat) (G : List (List Int)) (z : Int) (U : List Int) (S : List Int) (u : Int) (w : World) (hb : Blk w gb 43 #[.slice A kk c, .map (some M)]) (hs : Marks w M S) (hin : u ∈ S) :
    Calls Try.prog 24 #[.iface 40 (.pointer (some ⟨gb, 0, none⟩)), .func (.func 17) #[] #[], tval u, tval z, .slice PA 0 0] w (DfsPost M G z U S u PA w) := by
  have hmv := meth_visited ⟨gb, 0, none⟩
  have HB := hide hb
  have HS := hide hs
  clear hb hs
  have hd : decide (u ∈ S) = true := by simpa using hin
  unfold tval
  go_enter Try.func24, Try.ntmps24
  go_wp2_with fail
  refine (gvisited_any gb M _ S u _ HB.out HS.out).mono ?_
  rintro e w1 ⟨rfl, hm1, hc1⟩
  have HM := hide hm1
  have HC := hide hc1
  clear hm1 hc1
  go_wp2_with fail
  go_ret
  refine ⟨.slice PA 0 0, [], u :: S, rfl, Or.inl ⟨rfl, rfl⟩, HM.out, HC.out, ⟨fun x hx => List.mem_cons_of_mem _ hx, List.mem_cons_self .., ?_, fun h => (h rfl).elim, fun h => (h rfl).elim, fun h => (h rfl).elim, fun i a b h => by simp at h⟩, by simp⟩
  intro _ x hx hxS
  rcases List.mem_cons.1 hx with rfl | hx
  · exact (hxS hin).elim
  · exact (hxS hx).elim

/-- What holds ahead of each round of dfsRecursive's loop. -/
structure DfsInv (G : List (List Int)) (z : Int) (S : List Int) (u : Int) (done T : List Int) : Prop where
  sub : ∀ x ∈ u :: S, x ∈ T
  done_ : ∀ y ∈ done, y ∈ T ∧ y ≠ z
  closed : ∀ x ∈ T, x ∉ u :: S → ∀ y ∈ adj G x, y ∈ T ∧ y ≠ z

theorem DfsInv.step {G : List (List Int)} {z : Int} {S : List Int} {u : Int} {done T T' : List Int} {y : Int} (h : DfsInv G z S u done T) (hf : Found G z T y T' []) (hy : y ≠ z) : DfsInv G z S u (done ++ [y]) T' := by
  refine ⟨fun x hx => hf.sub x (h.sub x hx), fun a ha => ?_, fun x hx hxS a ha => ?_⟩
  · rcases List.mem_append.1 ha with ha | ha
    · exact ⟨hf.sub a (h.done_ a ha).1, (h.done_ a ha).2⟩
    · rw [List.mem_singleton.1 ha]; exact ⟨hf.here, hy⟩
  · by_cases hxT : x ∈ T
    · exact ⟨hf.sub a (h.closed x hxT hxS a ha).1, (h.closed x hxT hxS a ha).2⟩
    · exact hf.none_ rfl x hx hxT a ha


theorem Found.at_once {G : List (List Int)} {z : Int} {S : List Int} {u : Int} {done T : List Int} (h : DfsInv G z S u done T) (hz : z ∈ adj G u) : Found G z S u T [z, u] := by
  refine ⟨fun x hx => h.sub x (List.mem_cons_of_mem _ hx), h.sub u (List.mem_cons_self ..), fun h => (by cases h), fun _ => rfl, fun _ => rfl, fun _ => by simp, ?_⟩
  intro i a b ha hb
  match i with
  | 0 => simp at ha hb; subst ha; subst hb; exact hz
  | i + 1 => simp at hb

theorem Found.further {G : List (List Int)} {z : Int} {S : List Int} {u y : Int} {done T T' xs : List Int} (h : DfsInv G z S u done T) (hf : Found G z T y T' xs) (hx : xs ≠ []) (hy : y ∈ adj G u) : Found G z S u T' (xs ++ [u]) := by
  refine ⟨fun x hx => hf.sub x (h.sub x (List.mem_cons_of_mem _ hx)), hf.sub u (h.sub u (List.mem_cons_self ..)), fun h => (by simp at h), fun _ => ?_, fun _ => by simp, fun _ => ?_, ?_⟩
  · rw [List.head?_append, hf.first hx]; rfl
  · have := hf.two hx; simp; omega
  · intro i a b ha hb
    have hl := hf.two hx
    rcases Nat.lt_or_ge (i + 1) xs.length with h1 | h1
    · rw [List.getElem?_append_left h1] at hb
      rw [List.getElem?_append_left (by omega)] at ha
      exact hf.chain i a b ha hb
    · have hi : i + 1 < (xs ++ [u]).length := (List.getElem?_eq_some_iff.1 hb).1
      have h2 : i + 1 = xs.length := by simp at hi; omega
      rw [List.getElem?_append_right h1, h2] at hb
      simp at hb
      rw [List.getElem?_append_left (by omega)] at ha
      have h3 := hf.last hx
      rw [List.getLast?_eq_getElem?, show xs.length - 1 = i by omega, ha] at h3
      injection h3 with h3
      rw [h3, ← hb]; exact hy

theorem Found.no_way {G : List (List Int)} {z : Int} {S : List Int} {u : Int} {T : List Int} (h : DfsInv G z S u (adj G u) T) : Found G z S u T [] := by
  refine ⟨fun x hx => h.sub x (List.mem_cons_of_mem _ hx), h.sub u (List.mem_cons_self ..), fun _ x hx hS y hy => ?_, fun h => (h rfl).elim, fun h => (h rfl).elim, fun h => (h rfl).elim, fun i a b ha => by simp at ha⟩
  by_cases hxu : x = u
  · subst hxu; exact h.done_ y hy
  · exact h.closed x hx (by simp [hxu, hS]) y hy
end Go.Proofs.Ytndkjjfnlpkigaa
