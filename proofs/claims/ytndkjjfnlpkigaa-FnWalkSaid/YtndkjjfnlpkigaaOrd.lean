/- The plain law of a walk through a graph with a queue: what its order is like, against the stages of Far. No program. -/
import Derived.Test.YtndkjjfnlpkigaaPath
namespace Go.Proofs.Ytndkjjfnlpkigaa

/-- The queue behind a node whose neighbours are ys. -/
def nextQ (b : Bool) (ys q : List Int) : List Int := if b then q ++ ys else ys.reverse ++ q

/-- Order and queue that a walk comes to. -/
inductive WalkR (b : Bool) (G : List (List Int)) (a to : Int) : List Int → List Int → Prop
  | start : WalkR b G a to [] [a]
  | skip {ord q : List Int} {n : Int} : WalkR b G a to ord (n :: q) → n ∈ ord → WalkR b G a to ord q
  | go {ord q : List Int} {n : Int} : WalkR b G a to ord (n :: q) → n ∉ ord → n ≠ to → WalkR b G a to (ord ++ [n]) (nextQ b (adj G n) q)

/-- How a walk ends. -/
def WalkEnd (b : Bool) (G : List (List Int)) (a to : Int) (ord : List Int) (r : Bool) : Prop :=
  (r = true ∧ ∃ o q, WalkR b G a to o (to :: q) ∧ to ∉ o ∧ ord = o ++ [to]) ∨ (r = false ∧ WalkR b G a to ord [])

theorem mem_nextQ {b : Bool} {ys q : List Int} {x : Int} : x ∈ nextQ b ys q ↔ x ∈ ys ∨ x ∈ q := by
  unfold nextQ
  split <;> simp [or_comm]

theorem len_nextQ {b : Bool} {ys q : List Int} : (nextQ b ys q).length = ys.length + q.length := by
  unfold nextQ
  split <;> simp [Nat.add_comm]

theorem WalkR.nodup {b : Bool} {G : List (List Int)} {a to : Int} {ord q : List Int} (h : WalkR b G a to ord q) : ord.Nodup := by
  induction h with
  | start => exact List.nodup_nil
  | skip _ _ ih => exact ih
  | go _ hn _ ih =>
    rw [List.nodup_append]
    exact ⟨ih, by simp, fun x hx y hy e => hn (by rw [List.mem_singleton.1 hy] at e; exact e ▸ hx)⟩

theorem WalkR.mem {b : Bool} {G : List (List Int)} {a to : Int} {ord q : List Int} (h : WalkR b G a to ord q) : ∀ x, x ∈ ord ∨ x ∈ q → x ∈ a :: G.flatten := by
  induction h with
  | start => intro x hx; rcases hx with hx | hx; cases hx; rw [List.mem_singleton.1 hx]; exact List.mem_cons_self ..
  | skip _ _ ih => exact fun x hx => ih x (hx.elim Or.inl (fun h => Or.inr (List.mem_cons_of_mem _ h)))
  | @go ord q n _ _ _ ih =>
    intro x hx
    rcases hx with hx | hx
    · rcases List.mem_append.1 hx with hx | hx
      · exact ih x (Or.inl hx)
      · rw [List.mem_singleton.1 hx]; exact ih _ (Or.inr (List.mem_cons_self ..))
    · rcases mem_nextQ.1 hx with hx | hx
      · exact List.mem_cons_of_mem _ (adj_mem hx)
      · exact ih x (Or.inr (List.mem_cons_of_mem _ hx))

/-- The neighbours of all nodes of a list, together. -/
def degs (G : List (List Int)) : List Int → Nat
  | [] => 0
  | x :: l => (adj G x).length + degs G l

theorem degs_append (G : List (List Int)) : ∀ (l m : List Int), degs G (l ++ m) = degs G l + degs G m
  | [], m => by simp [degs]
  | x :: l, m => by simp [degs, degs_append G l m]; omega

theorem adj_cons (g : List Int) (G : List (List Int)) (x : Int) : (adj (g :: G) x).length = (if x = 0 then g.length else 0) + (adj G (x - 1)).length := by
  unfold adj
  by_cases h0 : x < 0
  · rw [if_pos h0, if_pos (show x - 1 < 0 by omega), if_neg (show ¬ x = 0 by omega)]; rfl
  · by_cases h1 : x = 0
    · subst h1; simp
    · obtain ⟨n, rfl⟩ := Int.eq_ofNat_of_zero_le (show 0 ≤ x by omega)
      rw [if_neg h0, if_neg h1, if_neg (by omega)]
      have e1 : ((n : Int)).toNat = n := by simp
      have e2 : ((n : Int) - 1).toNat = n - 1 := by omega
      rw [e1, e2]
      obtain ⟨m, rfl⟩ : ∃ m, n = m + 1 := ⟨n - 1, by omega⟩
      simp

theorem degs_cons (g : List Int) (G : List (List Int)) : ∀ l : List Int, degs (g :: G) l = l.count 0 * g.length + degs G (l.map (· - 1))
  | [] => by simp [degs]
  | x :: l => by
    rw [List.map_cons, degs, degs, adj_cons, degs_cons g G l, List.count_cons]
    by_cases h : x = 0
    · subst h; simp [Nat.add_mul]; omega
    · simp [h]; omega

theorem degs_le : ∀ (G : List (List Int)) (l : List Int), l.Nodup → degs G l ≤ G.flatten.length
  | [], l, _ => by
    have : degs [] l = 0 := by
      induction l with
      | nil => rfl
      | cons x l ih => rw [degs, ih (by rename_i h; exact (List.nodup_cons.1 h).2)]; unfold adj; split <;> simp
    omega
  | g :: G, l, hn => by
    rw [degs_cons]
    have h1 : l.count 0 ≤ 1 := List.nodup_iff_count.1 hn 0
    have h2 := degs_le G (l.map (· - 1)) (List.Pairwise.map (R := (· ≠ ·)) (S := (· ≠ ·)) (f := (· - 1)) (fun x y h e => h (by have e' : x - 1 = y - 1 := e; omega)) hn)
    have h3 : l.count 0 * g.length ≤ 1 * g.length := Nat.mul_le_mul_right _ h1
    simp only [List.flatten_cons, List.length_append]
    omega

theorem WalkR.qlen {b : Bool} {G : List (List Int)} {a to : Int} {ord q : List Int} (h : WalkR b G a to ord q) : q.length ≤ 1 + degs G ord := by
  induction h with
  | start => simp
  | skip _ _ ih => simp at ih; omega
  | go _ _ _ ih => rw [len_nextQ, degs_append]; simp [degs] at ih ⊢; omega

theorem WalkR.qle {b : Bool} {G : List (List Int)} {a to : Int} {ord q : List Int} (h : WalkR b G a to ord q) : q.length ≤ 1 + G.flatten.length := by
  have := h.qlen
  have := degs_le G ord h.nodup
  omega

theorem WalkR.olen {b : Bool} {G : List (List Int)} {a to : Int} {ord q : List Int} (h : WalkR b G a to ord q) : ord.length ≤ 1 + G.flatten.length := by
  have := nodup_le ord (a :: G.flatten) h.nodup (fun x hx => h.mem x (Or.inl hx))
  rw [List.length_cons] at this; omega

theorem adj_len (G : List (List Int)) (x : Int) : (adj G x).length ≤ G.flatten.length := by
  have := degs_le G [x] (by simp)
  simpa [degs] using this

/-- At most so many rounds are still to come. -/
def left (G : List (List Int)) (a : Int) (ord q : List Int) : Nat := fresh (a :: G.flatten) ord * (G.flatten.length + 1) + q.length

theorem left_skip {G : List (List Int)} {a : Int} {ord q : List Int} {n : Int} : left G a ord q < left G a ord (n :: q) := by simp [left]

theorem left_go {b : Bool} {G : List (List Int)} {a to : Int} {ord q : List Int} {n : Int} (h : WalkR b G a to ord (n :: q)) (hn : n ∉ ord) : left G a (ord ++ [n]) (nextQ b (adj G n) q) < left G a ord (n :: q) := by
  have h1 : fresh (a :: G.flatten) (ord ++ [n]) < fresh (a :: G.flatten) ord := fresh_lt (h.mem n (Or.inr (List.mem_cons_self ..))) hn (by simp) (fun x hx => by simp [hx])
  have h2 := adj_len G n
  have h3 : (fresh (a :: G.flatten) (ord ++ [n]) + 1) * (G.flatten.length + 1) ≤ fresh (a :: G.flatten) ord * (G.flatten.length + 1) := Nat.mul_le_mul_right _ h1
  rw [Nat.add_mul] at h3
  unfold left
  rw [len_nextQ, List.length_cons]
  omega

/-- Each node of the order but the first lies behind one that leads to it. -/
structure Led (G : List (List Int)) (a : Int) (ord : List Int) : Prop where
  first : ∀ x, ord[0]? = some x → x = a
  led : ∀ i x, 0 < i → ord[i]? = some x → ∃ m ∈ ord.take i, x ∈ adj G m

theorem Led.snoc {G : List (List Int)} {a : Int} {ord : List Int} {n : Int} (h : Led G a ord) (h0 : ord = [] → n = a) (h1 : ord ≠ [] → ∃ m ∈ ord, n ∈ adj G m) : Led G a (ord ++ [n]) := by
  constructor
  · intro x hx
    cases ord with
    | nil => simp at hx; rw [← hx]; exact h0 rfl
    | cons y l => exact h.first x (by simpa using hx)
  · intro i x hi hx
    rcases Nat.lt_or_ge i ord.length with hl | hl
    · rw [List.getElem?_append_left hl] at hx
      obtain ⟨m, hm, hxm⟩ := h.led i x hi hx
      exact ⟨m, by rw [List.take_append_of_le_length (by omega)]; exact hm, hxm⟩
    · have h2 : i < (ord ++ [n]).length := (List.getElem?_eq_some_iff.1 hx).1
      have h3 : i = ord.length := by simp at h2; omega
      subst h3
      rw [List.getElem?_append_right hl] at hx
      simp at hx
      subst hx
      obtain ⟨m, hm, hxm⟩ := h1 (by rintro rfl; simp at hi)
      exact ⟨m, by simpa using hm, hxm⟩

/-- What a walk's order and queue are like. -/
structure WalkJ (G : List (List Int)) (a to : Int) (ord q : List Int) : Prop where
  led : Led G a ord
  zero : ord = [] → q = [a]
  qled : ord ≠ [] → ∀ x ∈ q, ∃ m ∈ ord, x ∈ adj G m
  closed : ∀ m ∈ ord, ∀ y ∈ adj G m, y ∈ ord ∨ y ∈ q
  noto : to ∉ ord

theorem WalkR.j {b : Bool} {G : List (List Int)} {a to : Int} {ord q : List Int} (h : WalkR b G a to ord q) : WalkJ G a to ord q := by
  induction h with
  | start => exact ⟨⟨by simp, by simp⟩, fun _ => rfl, fun h => (h rfl).elim, by simp, by simp⟩
  | @skip ord q n _ hn ih =>
    refine ⟨ih.led, fun e => absurd (e ▸ hn : n ∈ []) (by simp), fun e x hx => ih.qled e x (List.mem_cons_of_mem _ hx), fun m hm y hy => ?_, ih.noto⟩
    rcases ih.closed m hm y hy with h | h
    · exact Or.inl h
    · rcases List.mem_cons.1 h with rfl | h
      · exact Or.inl hn
      · exact Or.inr h
  | @go ord q n _ hn hto ih =>
    have hnl : ord ≠ [] → ∃ m ∈ ord, n ∈ adj G m := fun e => ih.qled e n (List.mem_cons_self ..)
    refine ⟨ih.led.snoc (fun e => ?_) hnl, by simp, fun _ x hx => ?_, fun m hm y hy => ?_, ?_⟩
    · have := ih.zero e
      simp at this; exact this.1
    · rcases mem_nextQ.1 hx with hx | hx
      · exact ⟨n, by simp, hx⟩
      · by_cases e : ord = []
        · have := ih.zero e
          simp at this
          rw [this.2] at hx; cases hx
        · obtain ⟨m, hm, hxm⟩ := ih.qled e x (List.mem_cons_of_mem _ hx)
          exact ⟨m, by simp [hm], hxm⟩
    · rcases List.mem_append.1 hm with hm | hm
      · rcases ih.closed m hm y hy with h | h
        · exact Or.inl (by simp [h])
        · rcases List.mem_cons.1 h with rfl | h
          · exact Or.inl (by simp)
          · exact Or.inr (mem_nextQ.2 (Or.inr h))
      · rw [List.mem_singleton.1 hm] at hy
        exact Or.inr (mem_nextQ.2 (Or.inl hy))
    · intro h
      rcases List.mem_append.1 h with h | h
      · exact ih.noto h
      · exact hto (List.mem_singleton.1 h).symm

/-- The stage that Far comes to. -/
theorem stage_mem_start (G : List (List Int)) (a : Int) (k : Nat) : a ∈ (stage G a k).1 := List.mem_of_getElem? (stage_good G a k).head
theorem stage_all {G : List (List Int)} {a : Int} {k : Nat} (hk : k = (stage G a k).1.length) {x : Int} (hx : x ∈ (stage G a k).1) {y : Int} (hy : y ∈ adj G x) : y ∈ (stage G a k).1 := by
  obtain ⟨j, hj⟩ := List.mem_iff_getElem?.1 hx
  exact stage_closed G a k j x (by rw [hk]; exact (List.getElem?_eq_some_iff.1 hj).1) hj y hy

theorem WalkR.inN {b : Bool} {G : List (List Int)} {a to : Int} {ord q : List Int} (h : WalkR b G a to ord q) {k : Nat} (hk : k = (stage G a k).1.length) : ∀ x, x ∈ ord ∨ x ∈ q → x ∈ (stage G a k).1 := by
  induction h with
  | start => intro x hx; rcases hx with hx | hx; cases hx; rw [List.mem_singleton.1 hx]; exact stage_mem_start G a k
  | skip _ _ ih => exact fun x hx => ih x (hx.elim Or.inl (fun h => Or.inr (List.mem_cons_of_mem _ h)))
  | @go ord q n _ _ _ ih =>
    have hn := ih n (Or.inr (List.mem_cons_self ..))
    intro x hx
    rcases hx with hx | hx
    · rcases List.mem_append.1 hx with hx | hx
      · exact ih x (Or.inl hx)
      · rw [List.mem_singleton.1 hx]; exact hn
    · rcases mem_nextQ.1 hx with hx | hx
      · exact stage_all hk hn hx
      · exact ih x (Or.inr (List.mem_cons_of_mem _ hx))

/-- A walk whose queue is empty has been everywhere. -/
theorem WalkR.whole {b : Bool} {G : List (List Int)} {a to : Int} {ord : List Int} (h : WalkR b G a to ord []) {k : Nat} (hk : k = (stage G a k).1.length) : (∀ x, x ∈ (stage G a k).1 ↔ x ∈ ord) ∧ ord.length = (stage G a k).1.length := by
  have hne : ord ≠ [] := fun e => by have := h.j.zero e; cases this
  have ha : a ∈ ord := by
    cases ord with
    | nil => exact (hne rfl).elim
    | cons x l => rw [h.j.led.first x rfl]; exact List.mem_cons_self ..
  have hsub : ∀ x ∈ (stage G a k).1, x ∈ ord := stage_ind G a (· ∈ ord) ha (fun x hx y hy => (h.j.closed x hx y hy).elim id (fun h => by cases h)) k
  have hsup : ∀ x ∈ ord, x ∈ (stage G a k).1 := fun x hx => h.inN hk x (Or.inl hx)
  exact ⟨fun x => ⟨hsub x, hsup x⟩, Nat.le_antisymm (nodup_le _ _ h.nodup hsup) (nodup_le _ _ (stage_good G a k).nodup hsub)⟩

/-- Nodes added to a list, without their distances. -/
def ext1 (l q : List Int) : List Int := q.foldl (fun l v => if v ∈ l then l else l ++ [v]) l
theorem ext1_cons (l : List Int) (v : Int) (q : List Int) : ext1 l (v :: q) = ext1 (if v ∈ l then l else l ++ [v]) q := rfl
theorem ext1_append (l q r : List Int) : ext1 l (q ++ r) = ext1 (ext1 l q) r := by simp [ext1]
theorem extF_fst (d : Int) : ∀ (q : List Int) (p : List Int × List Int), (extF d p q).1 = ext1 p.1 q
  | [], _ => rfl
  | v :: q, p => by
    show (extF d (addF d p v) q).1 = _
    rw [extF_fst d q, ext1_cons]
    congr 1
    unfold addF
    split <;> rfl
theorem ext1_pre : ∀ (q l : List Int), l <+: ext1 l q
  | [], _ => List.prefix_refl _
  | v :: q, l => by
    rw [ext1_cons]
    refine List.IsPrefix.trans ?_ (ext1_pre q _)
    split
    · exact List.prefix_refl _
    · exact List.prefix_append _ _

/-- Breadth first, the order runs ahead of Far. -/
theorem WalkR.far {G : List (List Int)} {a to : Int} {ord q : List Int} (h : WalkR true G a to ord q) : ext1 ord q = (stage G a ord.length).1 := by
  induction h with
  | start => rfl
  | skip _ hn ih => rw [ext1_cons, if_pos hn] at ih; exact ih
  | @go ord q n _ hn _ ih =>
    rw [ext1_cons, if_neg hn] at ih
    have hp := ext1_pre q (ord ++ [n])
    rw [ih] at hp
    have hx : (stage G a ord.length).1[ord.length]? = some n := pre_get hp (by simp)
    rw [List.length_append, List.length_singleton, stage_succ hx, extF_fst, ← ih, ← ext1_append]
    rfl

theorem stage_mono (G : List (List Int)) (a : Int) (i : Nat) : ∀ j, (stage G a i).1 <+: (stage G a (i + j)).1
  | 0 => List.prefix_refl _
  | j + 1 => (stage_mono G a i j).trans (stage_pre G a (i + j)).1
theorem stage_stop {G : List (List Int)} {a : Int} {k : Nat} (hk : k = (stage G a k).1.length) : ∀ j, stage G a (k + j) = stage G a k
  | 0 => rfl
  | j + 1 => by
    have ih := stage_stop hk j
    have hx : (stage G a (k + j)).1[k + j]? = none := by rw [ih]; exact List.getElem?_eq_none (by omega)
    show (match (stage G a (k + j)).1[k + j]? with | none => stage G a (k + j) | some x => _) = _
    rw [hx]; exact ih
theorem stage_into {G : List (List Int)} {a : Int} {k : Nat} (hk : k = (stage G a k).1.length) (i : Nat) : (stage G a i).1 <+: (stage G a k).1 := by
  rcases Nat.le_total i k with h | h
  · obtain ⟨j, rfl⟩ := Nat.exists_eq_add_of_le h
    exact stage_mono G a i j
  · obtain ⟨j, rfl⟩ := Nat.exists_eq_add_of_le h
    rw [stage_stop hk j]; exact List.prefix_refl _

theorem WalkR.pre {G : List (List Int)} {a to : Int} {ord q : List Int} (h : WalkR true G a to ord q) {k : Nat} (hk : k = (stage G a k).1.length) : ord <+: (stage G a k).1 := by
  have h1 := ext1_pre q ord
  rw [h.far] at h1
  exact h1.trans (stage_into hk _)
theorem WalkR.pre1 {G : List (List Int)} {a to : Int} {ord q : List Int} {n : Int} (h : WalkR true G a to ord (n :: q)) (hn : n ∉ ord) {k : Nat} (hk : k = (stage G a k).1.length) : ord ++ [n] <+: (stage G a k).1 := by
  have h1 := ext1_pre q (ord ++ [n])
  have h2 := h.far
  rw [ext1_cons, if_neg hn] at h2
  rw [h2] at h1
  exact h1.trans (stage_into hk _)

/-- The distances stand in order. -/
structure Upw (i : Nat) (F : List Int) : Prop where
  sorted : F.Pairwise (· ≤ ·)
  near : ∀ e, F[i]? = some e → ∀ x ∈ F, x ≤ e + 1

theorem ext_upw {d : Int} {i : Nat} : ∀ (q : List Int) (p : List Int × List Int), p.2[i]? = some d → Upw i p.2 → (extF (d + 1) p q).2[i]? = some d ∧ Upw i (extF (d + 1) p q).2
  | [], p, hd, hu => ⟨hd, hu⟩
  | v :: q, p, hd, hu => by
    show (extF (d + 1) (addF (d + 1) p v) q).2[i]? = some d ∧ Upw i (extF (d + 1) (addF (d + 1) p v) q).2
    refine ext_upw q _ (pre_get addF_pre.2 hd) ?_
    unfold addF
    split
    · exact hu
    · refine ⟨?_, fun e he x hx => ?_⟩
      · rw [List.pairwise_append]
        exact ⟨hu.sorted, by simp, fun x hx y hy => by rw [List.mem_singleton.1 hy]; exact hu.near d hd x hx⟩
      · have he' : (p.2 ++ [d + 1])[i]? = some e := he
        rw [pre_get (List.prefix_append _ _) hd] at he'
        injection he' with he'
        subst he'
        rcases List.mem_append.1 hx with hx | hx
        · exact hu.near d hd x hx
        · rw [List.mem_singleton.1 hx]; omega

theorem stage_upw (G : List (List Int)) (a : Int) : ∀ i, Upw i (stage G a i).2
  | 0 => ⟨by simp [stage], fun e he x hx => by simp [stage] at he hx; omega⟩
  | i + 1 => by
    have ih := stage_upw G a i
    have hg := stage_good G a i
    cases hxi : (stage G a i).1[i]? with
    | none =>
      have e : stage G a (i + 1) = stage G a i := by
        show (match (stage G a i).1[i]? with | none => stage G a i | some x => _) = _
        rw [hxi]
      have hl := List.getElem?_eq_none_iff.1 hxi
      rw [e]
      refine ⟨ih.sorted, fun x hx => ?_⟩
      have := (List.getElem?_eq_some_iff.1 hx).1
      have := hg.len
      omega
    | some z =>
      rw [stage_succ hxi]
      have hi : i < (stage G a i).2.length := by rw [← hg.len]; exact (List.getElem?_eq_some_iff.1 hxi).1
      have hd : (stage G a i).2[i]? = some ((stage G a i).2.getD i 0) := by rw [List.getD_eq_getElem?_getD, List.getElem?_eq_getElem hi]; rfl
      have h1 := ext_upw (adj G z) (stage G a i) hd ih
      generalize extF ((stage G a i).2.getD i 0 + 1) (stage G a i) (adj G z) = p at *
      refine ⟨h1.2.sorted, fun e he x hx => ?_⟩
      have h2 := h1.2.near _ h1.1 x hx
      have h3 : (stage G a i).2.getD i 0 ≤ e := by
        obtain ⟨l1, e1⟩ := List.getElem?_eq_some_iff.1 h1.1
        obtain ⟨l2, e2⟩ := List.getElem?_eq_some_iff.1 he
        have := List.pairwise_iff_getElem.1 h1.2.sorted i (i + 1) l1 l2 (by omega)
        omega
      omega

/-- The distance of a node. -/
def distL : List Int → List Int → Int → Int
  | m :: N, d :: F, n => if m = n then d else distL N F n
  | _, _, _ => -1

theorem distL_at : ∀ {N F : List Int} {i : Nat} {n d : Int}, N.Nodup → N[i]? = some n → F[i]? = some d → distL N F n = d
  | m :: N, e :: F, 0, n, d, _, h1, h2 => by
    simp at h1 h2; subst h1; subst h2; simp [distL]
  | m :: N, e :: F, i + 1, n, d, hn, h1, h2 => by
    have hn' := List.nodup_cons.1 hn
    have h1' : N[i]? = some n := by simpa using h1
    have hm : m ≠ n := fun e => hn'.1 (by rw [e]; exact List.mem_of_getElem? h1')
    rw [distL, if_neg hm]
    exact distL_at hn'.2 h1' (by simpa using h2)
  | [], _, _, _, _, _, h, _ => by simp at h
  | _ :: _, [], _, _, _, _, _, h => by simp at h

theorem distL_none : ∀ {N F : List Int} {n : Int}, n ∉ N → distL N F n = -1
  | [], _, _, _ => by simp [distL]
  | _ :: _, [], _, _ => by simp [distL]
  | m :: N, e :: F, n, h => by
    rw [distL, if_neg (fun e => h (by simp [e]))]
    exact distL_none (fun h' => h (List.mem_cons_of_mem _ h'))

theorem distL_nonneg {G : List (List Int)} {a : Int} {p : List Int × List Int} (h : Good G a p) (n : Int) : decide (0 ≤ distL p.1 p.2 n) = decide (n ∈ p.1) := by
  by_cases hn : n ∈ p.1
  · obtain ⟨i, hi⟩ := List.mem_iff_getElem?.1 hn
    have hl : i < p.2.length := by rw [← h.len]; exact (List.getElem?_eq_some_iff.1 hi).1
    have hd := List.getElem?_eq_getElem hl
    rw [distL_at h.nodup hi hd]
    simp [hn, (h.bound i _ hd).1]
  · rw [distL_none hn]; simp [hn]

/-- An order that Far's nodes begin with has its distances in order. -/
theorem dist_upw {G : List (List Int)} {a : Int} {k : Nat} {ord : List Int} (hp : ord <+: (stage G a k).1) {i : Nat} {x y : Int} (hx : ord[i]? = some x) (hy : ord[i + 1]? = some y) : ¬ distL (stage G a k).1 (stage G a k).2 y < distL (stage G a k).1 (stage G a k).2 x := by
  have hg := stage_good G a k
  have h1 := pre_get hp hx
  have h2 := pre_get hp hy
  have l1 : i < (stage G a k).2.length := by rw [← hg.len]; exact (List.getElem?_eq_some_iff.1 h1).1
  have l2 : i + 1 < (stage G a k).2.length := by rw [← hg.len]; exact (List.getElem?_eq_some_iff.1 h2).1
  rw [distL_at hg.nodup h1 (List.getElem?_eq_getElem l1), distL_at hg.nodup h2 (List.getElem?_eq_getElem l2)]
  have := List.pairwise_iff_getElem.1 (stage_upw G a k).sorted i (i + 1) l1 l2 (by omega)
  omega

/-- What the end of a walk says. -/
theorem WalkEnd.facts {b : Bool} {G : List (List Int)} {a to : Int} {ord : List Int} {r : Bool} (h : WalkEnd b G a to ord r) {k : Nat} (hk : k = (stage G a k).1.length) :
    Led G a ord ∧ ord.Nodup ∧ ord ≠ [] ∧ r = decide (to ∈ (stage G a k).1) ∧ (r = true → ord.getLast? = some to) ∧ (r = false → ord.length = (stage G a k).1.length) ∧ (b = true → ord <+: (stage G a k).1) := by
  rcases h with ⟨rfl, o, q, hw, hn, rfl⟩ | ⟨rfl, hw⟩
  · have hj := hw.j
    have hto : to ∈ (stage G a k).1 := hw.inN hk to (Or.inr (List.mem_cons_self ..))
    refine ⟨hj.led.snoc (fun e => by have := hj.zero e; simp at this; exact this.1) (fun e => hj.qled e to (List.mem_cons_self ..)), ?_, by simp, by simp [hto], fun _ => by simp, fun h => (by cases h), ?_⟩
    · rw [List.nodup_append]
      exact ⟨hw.nodup, by simp, fun x hx y hy e => hn (by rw [List.mem_singleton.1 hy] at e; exact e ▸ hx)⟩
    · rintro rfl
      exact hw.pre1 hn hk
  · have hj := hw.j
    have hwh := hw.whole hk
    refine ⟨hj.led, hw.nodup, fun e => absurd (hj.zero e) (by simp), ?_, fun h => (by cases h), fun _ => hwh.2, ?_⟩
    · have : to ∉ (stage G a k).1 := fun h => hj.noto ((hwh.1 to).1 h)
      simp [this]
    · rintro rfl
      exact hw.pre hk
end Go.Proofs.Ytndkjjfnlpkigaa
