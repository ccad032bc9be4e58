/- The walks of GroupStack[int]. -/
import Derived.Test.YtammpllfmbmdmaaGrp
namespace Go.Proofs.Ytammpllfmbmdmaa
open Go.RowKit

/-- A stack of groups in variable gv, the first group at the bottom. -/
structure Grp (w : World) (B gv : Nat) (v : Value) (us : List Value) (L : List (List Int)) : Prop where
  rv : RowV w B gv v us
  len : us.length = L.length
  each : ∀ (i : Nat) (u : Value) (l : List Int), us[i]? = some u → L[i]? = some l → w.ownsRow B 3 1 u l.length (ints l)
  apart : ∀ (i j : Nat) (u u' : Value) (g : Nat), us[i]? = some u → us[j]? = some u' → u.ownBlock = some g → u'.ownBlock = some g → i = j

theorem Grp.chg {w w' : World} {B gv : Nat} {v : Value} {us : List Value} {L : List (List Int)} {S : Nat → Prop} (h : Grp w B gv v us L) (hc : Chg S w w') (h1 : ¬ S gv) (h2 : ∀ g, v.ownBlock = some g → ¬ S g) (h3 : ∀ u ∈ us, ∀ g, u.ownBlock = some g → ¬ S g) : Grp w' B gv v us L :=
  ⟨⟨h.rv.1.chg hc h1, own_chg h.rv.2 hc h2⟩, h.len, fun i u l hu hl => own_chg (h.each i u l hu hl) hc (h3 u (List.mem_of_getElem? hu)), h.apart⟩

/-- The last group. -/
theorem Grp.last {w : World} {B gv : Nat} {v : Value} {us : List Value} {L : List (List Int)} {l : List Int} (h : Grp w B gv v us (L ++ [l])) :
    ∃ us0 A c g cap, us = us0 ++ [.slice A l.length c] ∧ us0.length = L.length ∧ v = .slice (some ⟨g, 0, none⟩) (L.length + 1) cap ∧ w.ownsRow B 3 1 (.slice A l.length c) l.length (ints l) := by
  have hlen := h.len
  rw [List.length_append, List.length_singleton] at hlen
  rcases List.eq_nil_or_concat us with rfl | ⟨us0, u, rfl⟩
  · simp at hlen
  · rw [List.concat_eq_append] at hlen ⊢ h
    have h0 : us0.length = L.length := by simpa using hlen
    have ho := h.each us0.length u l (by simp) (by rw [h0]; simp)
    obtain ⟨A, c, rfl, _⟩ := own_reads ho
    obtain ⟨g, cap, hv, _, _⟩ := h.rv.2.form (by simp)
    exact ⟨us0, A, c, g, cap, rfl, h0, by rw [hv]; simp [h0], ho⟩

theorem Grp.init {w : World} {B gv : Nat} {v v' : Value} {us us0 : List Value} {u : Value} {L : List (List Int)} {l : List Int} (h : Grp w B gv v us (L ++ [l])) (hus : us = us0 ++ [u]) (h0 : us0.length = L.length) (hrv : RowV w B gv v' us0) : Grp w B gv v' us0 L := by
  subst hus
  refine ⟨hrv, h0, fun i x y hx hy => ?_, fun i j x x' g hx hx' => ?_⟩
  · have hi := (List.getElem?_eq_some_iff.1 hx).1
    exact h.each i x y (by rw [List.getElem?_append_left hi]; exact hx) (by rw [List.getElem?_append_left (by omega)]; exact hy)
  · have hi := (List.getElem?_eq_some_iff.1 hx).1
    have hj := (List.getElem?_eq_some_iff.1 hx').1
    exact h.apart i j x x' g (by rw [List.getElem?_append_left hi]; exact hx) (by rw [List.getElem?_append_left hj]; exact hx')

/-- One more group on top. -/
theorem Grp.snoc {w : World} {B gv : Nat} {v v' : Value} {us0 : List Value} {u : Value} {L : List (List Int)} {l : List Int} (h : Grp w B gv v us0 L) (hrv : RowV w B gv v' (us0 ++ [u])) (ho : w.ownsRow B 3 1 u l.length (ints l)) (ha : ∀ x ∈ us0, ∀ g, x.ownBlock = some g → u.ownBlock ≠ some g) : Grp w B gv v' (us0 ++ [u]) (L ++ [l]) := by
  have h0 := h.len
  have hlast : ∀ {i : Nat} {x : Value}, (us0 ++ [u])[i]? = some x → (us0[i]? = some x ∧ i < us0.length) ∨ (i = us0.length ∧ x = u) := by
    intro i x hx
    rcases Nat.lt_or_ge i us0.length with hi | hi
    · rw [List.getElem?_append_left hi] at hx; exact Or.inl ⟨hx, hi⟩
    · have h1 := (List.getElem?_eq_some_iff.1 hx).1
      have hi2 : i = us0.length := by simp at h1; omega
      subst hi2
      rw [List.getElem?_append_right (Nat.le_refl _), Nat.sub_self] at hx
      exact Or.inr ⟨rfl, by simpa using hx.symm⟩
  refine ⟨hrv, by simp [h0], fun i x y hx hy => ?_, fun i j x x' g hx hx' hg hg' => ?_⟩
  · rcases hlast hx with ⟨hx, hi⟩ | ⟨rfl, rfl⟩
    · rw [List.getElem?_append_left (by omega)] at hy
      exact h.each i x y hx hy
    · rw [h0, List.getElem?_append_right (Nat.le_refl _), Nat.sub_self] at hy
      have : l = y := by simpa using hy
      rw [← this]; exact ho
  · rcases hlast hx with ⟨hx1, hi⟩ | ⟨hi, hxu⟩
    · rcases hlast hx' with ⟨hx2, hj⟩ | ⟨hj, hxu'⟩
      · exact h.apart i j x x' g hx1 hx2 hg hg'
      · rw [hxu'] at hg'
        exact absurd hg' (ha x (List.mem_of_getElem? hx1) g hg)
    · rcases hlast hx' with ⟨hx2, hj⟩ | ⟨hj, hxu'⟩
      · rw [hxu] at hg
        exact absurd hg (ha x' (List.mem_of_getElem? hx2) g hg')
      · rw [hi, hj]

section
variable (B gv : Nat) (v : Value) (us : List Value) (w : World)

/-- What a method that changes the stack leaves: the new stack, in the old blocks or new ones. -/
structure GrpTo (B gv : Nat) (v : Value) (us : List Value) (w w' : World) (L : List (List Int)) : Prop where
  grp : ∃ v' us', Grp w' B gv v' us' L ∧ (∀ g, v'.ownBlock = some g → v.ownBlock = some g ∨ w.heap.size ≤ g) ∧ (∀ u ∈ us', ∀ g, u.ownBlock = some g → (∃ u0 ∈ us, u0.ownBlock = some g) ∨ w.heap.size ≤ g)
  chg : Chg (fun k => k = gv ∨ v.ownBlock = some k ∨ ∃ u ∈ us, u.ownBlock = some k) w w'

theorem grp_len (L : List (List Int)) (h : Grp w B gv v us L) :
    Calls Try.prog 43 #[.pointer (some ⟨gv, 0, none⟩)] w fun e w' => e = .returned (.int .i64 L.length) ∧ w' = w := by
  have hc := rowv_len B gv v us w h.rv
  rw [h.len] at hc
  clear h
  go_enter Try.func43, Try.ntmps43
  go_wp2_with fail
  refine hc.mono ?_
  rintro e w1 ⟨rfl, rfl⟩
  go_wp2
  go_ret
  exact ⟨rfl, rfl⟩

theorem grp_popGroup_none (L : List (List Int)) (hL : L = []) (h : Grp w B gv v us L) :
    Calls Try.prog 46 #[.pointer (some ⟨gv, 0, none⟩)] w (PanicsIn w) := by
  subst hL
  have hus : us = [] := List.eq_nil_of_length_eq_zero h.len
  subst hus
  have hc := rowv_pop_none B gv v w h.rv
  clear h
  go_enter Try.func46, Try.ntmps46
  go_wp2_with fail
  refine hc.mono ?_
  rintro e w1 ⟨⟨u, pv, rfl⟩, hcs⟩
  go_wp2
  exact ⟨rfl, ⟨_, _, rfl⟩, hcs⟩

theorem grp_peekGroup_none (L : List (List Int)) (hL : L = []) (h : Grp w B gv v us L) :
    Calls Try.prog 47 #[.pointer (some ⟨gv, 0, none⟩)] w (PanicsIn w) := by
  subst hL
  have hus : us = [] := List.eq_nil_of_length_eq_zero h.len
  subst hus
  have hc := rowv_peek_none B gv v w h.rv
  clear h
  go_enter Try.func47, Try.ntmps47
  go_wp2_with fail
  refine hc.mono ?_
  rintro e w1 ⟨⟨u, pv, rfl⟩, hcs⟩
  go_wp2
  exact ⟨rfl, ⟨_, _, rfl⟩, hcs⟩

theorem grp_push_none (x : Int) (L : List (List Int)) (hL : L = []) (h : Grp w B gv v us L) :
    Calls Try.prog 41 #[.pointer (some ⟨gv, 0, none⟩), .int .i64 x] w (PanicsIn w) := by
  subst hL
  have hus : us = [] := List.eq_nil_of_length_eq_zero h.len
  subst hus
  have hc := rowv_ptr_none B gv v w h.rv
  clear h
  go_enter Try.func41, Try.ntmps41
  go_wp2_with fail
  refine hc.mono ?_
  rintro e w1 ⟨⟨u, pv, rfl⟩, hcs⟩
  go_wp2
  exact ⟨rfl, ⟨_, _, rfl⟩, hcs⟩

theorem grp_pop_none (L : List (List Int)) (hL : L = []) (h : Grp w B gv v us L) :
    Calls Try.prog 42 #[.pointer (some ⟨gv, 0, none⟩)] w (PanicsIn w) := by
  subst hL
  have hus : us = [] := List.eq_nil_of_length_eq_zero h.len
  subst hus
  have hc := rowv_ptr_none B gv v w h.rv
  clear h
  go_enter Try.func42, Try.ntmps42
  go_wp2_with fail
  refine hc.mono ?_
  rintro e w1 ⟨⟨u, pv, rfl⟩, hcs⟩
  go_wp2
  exact ⟨rfl, ⟨_, _, rfl⟩, hcs⟩

set_option maxHeartbeats 1000000 in
theorem grp_pop_empty (L : List (List Int)) (h : Grp w B gv v us (L ++ [[]])) (hl : L.length ≤ 549755813888) :
    Calls Try.prog 42 #[.pointer (some ⟨gv, 0, none⟩)] w (PanicsIn w) := by
  obtain ⟨us0, A, c, g, cap, rfl, h0, rfl, ho⟩ := h.last
  have hrv := h.rv
  have hlen : (us0 ++ [Value.slice A 0 c]).length = L.length + 1 := by simp [h0]
  have hown := hrv.2
  simp only [List.length_nil] at hown hrv
  rw [hlen] at hown
  obtain ⟨hx, hfx⟩ := row_last hown h0
  have hc := rowv_ptr B gv us0 (.slice A 0 c) w g cap L.length hrv h0 (by omega)
  have hidx := index_neg A c
  unfold boundsValue at hidx
  generalize L.length = n at *
  clear h h0 hlen hrv hown ho
  go_enter Try.func42, Try.ntmps42
  go_wp2_with fail
  refine hc.mono ?_
  rintro e w1 ⟨rfl, q, rfl⟩
  go_wp2
  exact ⟨rfl, ⟨_, _, rfl⟩, (Chg.refl _ _).drewN _⟩

set_option maxHeartbeats 1000000 in
theorem grp_popGroup (L : List (List Int)) (l : List Int) (h : Grp w B gv v us (L ++ [l])) (hl : L.length ≤ 549755813888) :
    Calls Try.prog 46 #[.pointer (some ⟨gv, 0, none⟩)] w fun e w' => (∃ A c, e = .returned (.slice A l.length c) ∧ w'.ownsRow B 3 1 (.slice A l.length c) l.length (ints l)) ∧ GrpTo B gv v us w w' L := by
  obtain ⟨us0, A, c, g, cap, rfl, h0, rfl, ho⟩ := h.last
  have hc := rowv_pop B gv us0 w g cap L.length A l.length c h.rv h0 (by omega)
  have hvg : ∀ i, i < us0.length → ∀ u, us0[i]? = some u → u.ownBlock ≠ some g := by
    intro i hi u hu e
    obtain ⟨lx, hlx⟩ : ∃ lx, (L ++ [l])[i]? = some lx := ⟨_, List.getElem?_eq_getElem (by simp; omega)⟩
    obtain ⟨cs, hcs⟩ := own_blk (h.each i u lx (by rw [List.getElem?_append_left hi]; exact hu) hlx) e
    obtain ⟨cs', hcs'⟩ := own_blk h.rv.2 rfl
    exact hcs.ne_ hcs' (by decide) rfl
  have hug : (Value.slice A l.length c).ownBlock ≠ some g := by
    intro e
    obtain ⟨cs, hcs⟩ := own_blk ho e
    obtain ⟨cs', hcs'⟩ := own_blk h.rv.2 rfl
    exact hcs.ne_ hcs' (by decide) rfl
  have hgvu : ∀ (u : Value) (lx : List Int), w.ownsRow B 3 1 u lx.length (ints lx) → u.ownBlock ≠ some gv := by
    intro u lx hu e
    obtain ⟨cs, hcs⟩ := own_blk hu e
    exact hcs.ne_ h.rv.1 (by decide) rfl
  have H := hide h
  have HO := hide ho
  have HV := hide hvg
  have HU := hide hug
  have HGV := hide hgvu
  have H0 := hide h0
  clear h ho hvg hug hgvu h0
  go_enter Try.func46, Try.ntmps46
  go_wp2_with fail
  refine hc.mono ?_
  rintro e w1 ⟨rfl, hrv, hcg⟩
  have HRV := hide hrv
  have HCG := hide hcg
  clear hrv hcg hc
  go_wp2
  go_ret
  refine ⟨⟨A, c, rfl, own_chg HO.out HCG.out (fun k hk e => ?_)⟩, ⟨⟨.slice (some ⟨g, 0, none⟩) L.length cap, us0, ?_, fun k hk => Or.inl hk, fun u hu k hk => Or.inl ⟨u, List.mem_append_left _ hu, hk⟩⟩, HCG.out.mono (fun i _ e => e.imp id (fun e => Or.inl (by rw [e]; rfl)))⟩⟩
  · rcases e with e | e
    · exact HGV.out _ l HO.out (by rw [hk, e])
    · exact HU.out (by rw [hk, e])
  · have h1 : Grp w B gv (.slice (some ⟨g, 0, none⟩) (L.length + 1) cap) (us0 ++ [.slice A l.length c]) (L ++ [l]) := H.out
    refine ⟨HRV.out, H0.out, fun i u lx hu hlx => ?_, fun i j u u' k hu hu' hk hk' => ?_⟩
    · have hi := (List.getElem?_eq_some_iff.1 hu).1
      have hoi := h1.each i u lx (by rw [List.getElem?_append_left hi]; exact hu) (by rw [List.getElem?_append_left (by have := H0.out; omega)]; exact hlx)
      refine own_chg hoi HCG.out (fun k hk e => ?_)
      rcases e with e | e
      · exact HGV.out u lx hoi (by rw [hk, e])
      · exact HV.out i hi u hu (by rw [hk, e])
    · have hi := (List.getElem?_eq_some_iff.1 hu).1
      have hj := (List.getElem?_eq_some_iff.1 hu').1
      exact h1.apart i j u u' k (by rw [List.getElem?_append_left hi]; exact hu) (by rw [List.getElem?_append_left hj]; exact hu') hk hk'

set_option maxHeartbeats 1000000 in
theorem grp_peekGroup (L : List (List Int)) (l : List Int) (h : Grp w B gv v us (L ++ [l])) (hl : L.length ≤ 549755813888) :
    Calls Try.prog 47 #[.pointer (some ⟨gv, 0, none⟩)] w fun e w' => (∃ A c, e = .returned (.slice A l.length c) ∧ w.ownsRow B 3 1 (.slice A l.length c) l.length (ints l)) ∧ ∃ q, w' = w.drewN q := by
  obtain ⟨us0, A, c, g, cap, rfl, h0, rfl, ho⟩ := h.last
  have hc := rowv_peek B gv us0 w g cap L.length A l.length c h.rv h0 (by omega)
  have HO := hide ho
  clear h ho h0
  go_enter Try.func47, Try.ntmps47
  go_wp2_with fail
  refine hc.mono ?_
  rintro e w1 ⟨rfl, q, rfl⟩
  go_wp2
  go_ret
  exact ⟨⟨A, c, rfl, HO.out⟩, q, rfl⟩

set_option maxHeartbeats 1000000 in
theorem grp_pushGroup (L : List (List Int)) (l : List Int) (A : Option Addr) (c : Nat) (h : Grp w B gv v us L) (ho : w.ownsRow B 3 1 (.slice A l.length c) l.length (ints l)) (ha : ∀ x ∈ us, ∀ g, x.ownBlock = some g → (Value.slice A l.length c).ownBlock ≠ some g) (hl : L.length ≤ 549755813888) (hB : B ≤ w.heap.size) :
    Calls Try.prog 44 #[.pointer (some ⟨gv, 0, none⟩), .slice A l.length c] w fun e w' => e = .returned (.tuple #[]) ∧ ∃ v', Grp w' B gv v' (us ++ [.slice A l.length c]) (L ++ [l]) ∧ (v'.ownBlock = v.ownBlock ∨ v'.ownBlock = some (w.heap.size + 1)) ∧ Chg (fun k => k = gv ∨ v.ownBlock = some k) w w' := by
  have hc := rowv_push B gv v us w A l.length c h.rv (by rw [h.len]; exact hl) hB
  have H := hide h
  have HO := hide ho
  have HA := hide ha
  clear h ho ha
  go_enter Try.func44, Try.ntmps44
  go_wp2_with fail
  refine hc.mono ?_
  rintro e w1 ⟨rfl, v', hrv, hob, hcg⟩
  have hne : Hid (∀ (u : Value) (lx : List Int), w.ownsRow B 3 1 u lx.length (ints lx) → ∀ k, u.ownBlock = some k → ¬ (k = gv ∨ v.ownBlock = some k)) := by
    intro u lx hu k hk e
    obtain ⟨cs, hcs⟩ := own_blk hu hk
    rcases e with e | e
    · subst e; exact hcs.ne_ H.out.rv.1 (by decide) rfl
    · obtain ⟨cs', hcs'⟩ := own_blk H.out.rv.2 e
      exact hcs.ne_ hcs' (by decide) rfl
  have HRV := hide hrv
  have HCG := hide hcg
  have HOB := hide hob
  clear hrv hcg hc hob
  go_wp2
  go_end0
  refine ⟨rfl, v', ?_, HOB.out, HCG.out⟩
  have h0 := H.out.len
  have h1 := own_chg HO.out HCG.out (hne.out _ l HO.out)
  have hlast : ∀ {i : Nat} {x : Value}, (us ++ [.slice A l.length c])[i]? = some x → (us[i]? = some x ∧ i < us.length) ∨ (i = us.length ∧ x = .slice A l.length c) := by
    intro i x hx
    rcases Nat.lt_or_ge i us.length with hi | hi
    · rw [List.getElem?_append_left hi] at hx; exact Or.inl ⟨hx, hi⟩
    · have h1 := (List.getElem?_eq_some_iff.1 hx).1
      have hi2 : i = us.length := by simp at h1; omega
      subst hi2
      rw [List.getElem?_append_right (Nat.le_refl _), Nat.sub_self] at hx
      exact Or.inr ⟨rfl, by simpa using hx.symm⟩
  refine ⟨HRV.out, by simp [h0], fun i x y hx hy => ?_, fun i j x x' g hx hx' hg hg' => ?_⟩
  · rcases hlast hx with ⟨hx, hi⟩ | ⟨rfl, rfl⟩
    · rw [List.getElem?_append_left (by omega)] at hy
      have := H.out.each i x y hx hy
      exact own_chg this HCG.out (hne.out _ y this)
    · rw [h0, List.getElem?_append_right (Nat.le_refl _), Nat.sub_self] at hy
      have : l = y := by simpa using hy
      rw [← this]; exact h1
  · rcases hlast hx with ⟨hx1, hi⟩ | ⟨hi, hxu⟩
    · rcases hlast hx' with ⟨hx2, hj⟩ | ⟨hj, hxu'⟩
      · exact H.out.apart i j x x' g hx1 hx2 hg hg'
      · rw [hxu'] at hg'
        exact absurd hg' (HA.out x (List.mem_of_getElem? hx1) g hg)
    · rcases hlast hx' with ⟨hx2, hj⟩ | ⟨hj, hxu'⟩
      · rw [hxu] at hg
        exact absurd hg (HA.out x' (List.mem_of_getElem? hx2) g hg')
      · rw [hi, hj]

/-- The stack whose top group has turned. -/
theorem Grp.top {B gv : Nat} {us0 : List Value} {u u' : Value} {g cap : Nat} {w w' : World} {L : List (List Int)} {l l' : List Int} (h : Grp w B gv (.slice (some ⟨g, 0, none⟩) (L.length + 1) cap) (us0 ++ [u]) (L ++ [l])) (h0 : us0.length = L.length)
    (hc : Chg (fun k => k = g ∨ u.ownBlock = some k) w w') (hrow : w'.ownsRow B 27 1 (.slice (some ⟨g, 0, none⟩) (L.length + 1) cap) (L.length + 1) (us0 ++ [u'])) (ho : w'.ownsRow B 3 1 u' l'.length (ints l')) (hu : u'.ownBlock = u.ownBlock ∨ ∃ k, u'.ownBlock = some k ∧ w.heap.size ≤ k) :
    GrpTo B gv (.slice (some ⟨g, 0, none⟩) (L.length + 1) cap) (us0 ++ [u]) w w' (L ++ [l']) := by
  have hgg : g ≠ gv := fun e => by
    obtain ⟨cs, hcs⟩ := own_blk h.rv.2 rfl
    exact hcs.ne_ h.rv.1 (by decide) e
  have hou := h.each us0.length u l (by simp) (by rw [h0]; simp)
  have hug : u.ownBlock ≠ some gv := fun e => by
    obtain ⟨cs, hcs⟩ := own_blk hou e
    exact hcs.ne_ h.rv.1 (by decide) rfl
  have hb : Blk w' gv 63 #[.slice (some ⟨g, 0, none⟩) (L.length + 1) cap] := h.rv.1.chg hc (fun e => e.elim (fun e => hgg e.symm) hug)
  have hne : ∀ (i : Nat) (x : Value) (lx : List Int), us0[i]? = some x → L[i]? = some lx → ∀ k, x.ownBlock = some k → ¬ (k = g ∨ u.ownBlock = some k) := by
    intro i x lx hx hlx k hk e
    have hi := (List.getElem?_eq_some_iff.1 hx).1
    have hox := h.each i x lx (by rw [List.getElem?_append_left hi]; exact hx) (by rw [List.getElem?_append_left (by omega)]; exact hlx)
    rcases e with e | e
    · obtain ⟨cs, hcs⟩ := own_blk hox hk
      obtain ⟨cs', hcs'⟩ := own_blk h.rv.2 rfl
      exact hcs.ne_ hcs' (by decide) e
    · have := h.apart i us0.length x u k (by rw [List.getElem?_append_left hi]; exact hx) (by simp) hk e
      omega
  have hlast : ∀ {i : Nat} {x : Value}, (us0 ++ [u'])[i]? = some x → (us0[i]? = some x ∧ i < us0.length) ∨ (i = us0.length ∧ x = u') := by
    intro i x hx
    rcases Nat.lt_or_ge i us0.length with hi | hi
    · rw [List.getElem?_append_left hi] at hx; exact Or.inl ⟨hx, hi⟩
    · have h1 := (List.getElem?_eq_some_iff.1 hx).1
      have hi2 : i = us0.length := by simp at h1; omega
      subst hi2
      rw [List.getElem?_append_right (Nat.le_refl _), Nat.sub_self] at hx
      exact Or.inr ⟨rfl, by simpa using hx.symm⟩
  have hlx : ∀ {i : Nat} {x : Value}, us0[i]? = some x → ∃ lx, L[i]? = some lx ∧ w.ownsRow B 3 1 x lx.length (ints lx) := by
    intro i x hx
    have hi := (List.getElem?_eq_some_iff.1 hx).1
    have hl := List.getElem?_eq_getElem (l := L) (i := i) (by omega)
    exact ⟨_, hl, h.each i x _ (by rw [List.getElem?_append_left hi]; exact hx) (by rw [List.getElem?_append_left (by omega)]; exact hl)⟩
  have hfar : ∀ {i : Nat} {x : Value} {k : Nat}, us0[i]? = some x → x.ownBlock = some k → u'.ownBlock ≠ some k := by
    intro i x k hx hk e
    obtain ⟨lx, hl1, hl2⟩ := hlx hx
    rcases hu with hu | ⟨k', hu, hk'⟩
    · exact hne i x lx hx hl1 k hk (Or.inr (by rw [← hu]; exact e))
    · rw [hu] at e; injection e with e
      have := (hl2.lt k hk).2
      omega
  refine ⟨⟨_, us0 ++ [u'], ⟨⟨hb, by rw [List.length_append, h0]; exact hrow⟩, by simp [h0], fun i x y hx hy => ?_, fun i j x x' k hx hx' hk hk' => ?_⟩, fun k hk => Or.inl hk, fun x hx k hk => ?_⟩, hc.mono (fun i _ e => e.elim (fun e => Or.inr (Or.inl (by rw [e]; rfl))) (fun e => Or.inr (Or.inr ⟨u, by simp, e⟩)))⟩
  · rcases hlast hx with ⟨hx, hi⟩ | ⟨rfl, rfl⟩
    · rw [List.getElem?_append_left (by omega)] at hy
      obtain ⟨lx, hl1, hl2⟩ := hlx hx
      rw [hy] at hl1
      injection hl1 with hl1
      subst hl1
      exact own_chg hl2 hc (hne i x y hx hy)
    · rw [h0, List.getElem?_append_right (Nat.le_refl _), Nat.sub_self] at hy
      have : l' = y := by simpa using hy
      rw [← this]; exact ho
  · rcases hlast hx with ⟨hx1, hi⟩ | ⟨hi, hxu⟩
    · rcases hlast hx' with ⟨hx2, hj⟩ | ⟨hj, hxu'⟩
      · exact h.apart i j x x' k (by rw [List.getElem?_append_left hi]; exact hx1) (by rw [List.getElem?_append_left hj]; exact hx2) hk hk'
      · rw [hxu'] at hk'
        exact absurd hk' (hfar hx1 hk)
    · rcases hlast hx' with ⟨hx2, hj⟩ | ⟨hj, hxu'⟩
      · rw [hxu] at hk
        exact absurd hk (hfar hx2 hk')
      · rw [hi, hj]
  · rcases List.mem_append.1 hx with hx | hx
    · exact Or.inl ⟨x, List.mem_append_left _ hx, hk⟩
    · rw [List.mem_singleton.1 hx] at hk
      rcases hu with hu | ⟨k', hu, hk'⟩
      · exact Or.inl ⟨u, by simp, by rw [← hu]; exact hk⟩
      · rw [hu] at hk; injection hk with hk
        exact Or.inr (by omega)

set_option maxHeartbeats 1000000 in
theorem grp_push (L : List (List Int)) (l : List Int) (x : Int) (h : Grp w B gv v us (L ++ [l])) (hl : L.length ≤ 549755813888) (hll : l.length ≤ 1099511627776) (hB : B ≤ w.heap.size) :
    Calls Try.prog 41 #[.pointer (some ⟨gv, 0, none⟩), .int .i64 x] w fun e w' => e = .returned (.tuple #[]) ∧ GrpTo B gv v us w w' (L ++ [l ++ [x]]) := by
  obtain ⟨us0, A, c, g, cap, rfl, h0, rfl, ho⟩ := h.last
  obtain ⟨i0, hi, hz0, hz1, hz2⟩ := info_parts info3
  have hc := rowv_ptr B gv us0 (.slice A l.length c) w g cap L.length h.rv h0 (by omega)
  have hown := h.rv.2
  rw [show (us0 ++ [Value.slice A l.length c]).length = L.length + 1 by simp [h0]] at hown
  obtain ⟨hx, hfx⟩ := row_last hown h0
  have hgl := (own_blk hown rfl)
  obtain ⟨cs, hgb⟩ := hgl
  have hglt := hgb.lt
  have hug : (Value.slice A l.length c).ownBlock ≠ some g := by
    intro e
    obtain ⟨cs', hcs⟩ := own_blk ho e
    exact hcs.ne_ hgb (by decide) rfl
  have H := hide h
  have HOWN := hide hown
  have H0 := hide h0
  have HU := hide hug
  generalize hn : L.length = n at *
  have HN := hide hn
  obtain ⟨m, hm⟩ : ∃ m, m = l.length := ⟨_, rfl⟩
  rw [← hm] at ho hx HU H HOWN hll ⊢
  have HM := hide hm
  clear h hown h0 hug hn hm hgb
  go_enter Try.func41, Try.ntmps41
  go_wp2_with fail
  refine hc.mono ?_
  clear hc
  rintro e w1 ⟨rfl, q, rfl⟩
  have hown0 : (w.drewN q).ownsRow B 3 1 (.slice A m c) m (ints l) := ho
  go_wp2_with
    (at_builtin
     go_must (refine wpList_append1 rfl _ _ 27 rfl B 3 i0 (.int .i64 0) 8 Try.underlying27 hi hz0 hz1 hz2 rfl (.slice A m c) m _ rfl (hown0.alloc _) _ 1 (.int .i64 x) rfl (cell_one_new (w.drewN q) (.int .i64 x) 3 0 _ rfl) rfl (by unfold maxLen; omega) (by omega) (by simp; omega) ?_)
     intro k c1 w1 hO _ hG hat _
     have hx1 : w1.cell? ⟨g, n, none⟩ = some (.slice A m c) := ((hG.cell_far _ (by simp; omega) (fun e => HU.out e.symm)).trans (by rw [World.cell?_alloc_lt _ _ _ (by simpa using hglt)]; exact hx))
     have hf1 : w1.frozen? ⟨g, n, none⟩ = false := ((hG.frozen_far _ (by simp; omega) (fun e => HU.out e.symm)).trans (by rw [World.frozen?_alloc_old _ _ _ (Nat.ne_of_lt (by simpa using hglt))]; exact hfx))
     have HO := hide hO
     have HG := hide hG
     have HAT := hide hat
     clear hO hG hat)
  go_end0
  have hk : k ≠ g := by
    rcases HAT.out with h | h
    · exact fun e => HU.out (by rw [h, e])
    · intro e
      rw [World.size_alloc] at h
      simp at h
      omega
  have hcg0 : Chg (fun k => (Value.slice A m c).ownBlock = some k) w w1 := ((((Chg.refl (fun k => (Value.slice A m c).ownBlock = some k) w).drewN q).alloc _).trans (Chg.ofGrown (S := fun k => (Value.slice A m c).ownBlock = some k) HG.out (fun g hg _ => hg)) (fun i _ h => h))
  have hcg : Chg (fun k => k = g ∨ (Value.slice A m c).ownBlock = some k) w (w1.setCell ⟨g, n, none⟩ (.slice (some ⟨k, 0, none⟩) (m + 1) c1)) := (hcg0.mono (T := fun k => k = g ∨ (Value.slice A m c).ownBlock = some k) (fun i _ e => Or.inr e)).setCell (p := ⟨g, n, none⟩) (fun _ => Or.inl rfl) _
  refine ⟨rfl, ?_⟩
  have hh := H.out
  rw [← HN.out] at hh ⊢
  refine hh.top (by rw [HN.out]; exact H0.out) (l' := l ++ [x]) (u' := .slice (some ⟨k, 0, none⟩) (m + 1) c1) ?_ ?_ ?_ ?_
  · rw [HN.out]; exact hcg
  · rw [HN.out]
    exact own_last (own_chg HOWN.out hcg0 (fun i hi e => HU.out (by simp [Value.ownBlock] at hi; rw [hi]; exact e))) H0.out
  · have e1 : (l ++ [x]).length = m + 1 := by rw [List.length_append, HM.out]; rfl
    have e2 : ints (l ++ [x]) = ints l ++ [.int .i64 x] := List.map_append
    rw [e1, e2, HN.out]
    exact ownsRow_setCell_other HO.out (by simp [Value.ownBlock]; exact hk) _
  · rcases HAT.out with h | h
    · exact Or.inl (by rw [h]; rfl)
    · rw [World.size_alloc] at h
      exact Or.inr ⟨k, rfl, by simp at h; omega⟩

set_option maxHeartbeats 1000000 in
theorem grp_pop (L : List (List Int)) (l : List Int) (x : Int) (h : Grp w B gv v us (L ++ [l ++ [x]])) (hl : L.length ≤ 549755813888) (hll : l.length ≤ 1099511627776) :
    Calls Try.prog 42 #[.pointer (some ⟨gv, 0, none⟩)] w fun e w' => e = .returned (.tuple #[]) ∧ GrpTo B gv v us w w' (L ++ [l]) := by
  obtain ⟨us0, A, c, g, cap, rfl, h0, rfl, ho⟩ := h.last
  have hc := rowv_ptr B gv us0 (.slice A (l ++ [x]).length c) w g cap L.length h.rv h0 (by omega)
  have hown := h.rv.2
  rw [show (us0 ++ [Value.slice A (l ++ [x]).length c]).length = L.length + 1 by simp [h0]] at hown
  obtain ⟨hx, hfx⟩ := row_last hown h0
  have hgl := (own_blk hown rfl)
  obtain ⟨cs, hgb⟩ := hgl
  have hug : (Value.slice A (l ++ [x]).length c).ownBlock ≠ some g := by
    intro e
    obtain ⟨cs', hcs⟩ := own_blk ho e
    exact hcs.ne_ hgb (by decide) rfl
  have hlen : (l ++ [x]).length = l.length + 1 := by simp
  have hints : ints (l ++ [x]) = ints l ++ [.int .i64 x] := List.map_append
  rw [hlen, hints] at ho
  rw [hlen] at hx hug hown h ⊢
  obtain ⟨k, c2, hv, _, hklt⟩ := ho.form (by omega)
  have hA : A = some ⟨k, 0, none⟩ := by injection hv
  subst hA
  have hcap := own_cap ho
  unfold maxLen at hcap
  obtain ⟨hcap1, hcap2⟩ := hcap
  have hxk := row_last ho (by simp)
  obtain ⟨hxk1, hxk2⟩ := hxk
  have hkg : k ≠ g := fun e => hug (by rw [e]; rfl)
  have H := hide h
  have HOWN := hide hown
  have H0 := hide h0
  have HOU := hide ho
  generalize hn : L.length = n at *
  have HN := hide hn
  generalize hm : l.length = m at *
  have HM := hide hm
  clear h hown h0 hug hn hm hgb ho hlen hints
  have hw1 : IntKind.i64.wrap ((m : Int) + 1 - 1) = m := by rw [IntKind.wrap_i64]; omega
  go_enter Try.func42, Try.ntmps42
  go_wp2_with fail
  refine hc.mono ?_
  clear hc
  rintro e w1 ⟨rfl, q, rfl⟩
  go_wp2
  go_end0
  refine ⟨rfl, ?_⟩
  have hgk : g ≠ k := fun e => hkg e.symm
  have hS : Chg (fun i => i = g ∨ (Value.slice (some ⟨k, 0, none⟩) (m + 1) c).ownBlock = some i) w (((w.drewN q).setCell ⟨k, m, none⟩ (.int .i64 0)).setCell ⟨g, n, none⟩ (.slice (some ⟨k, 0, none⟩) m c)) :=
    (((Chg.refl (fun i => i = g ∨ (Value.slice (some ⟨k, 0, none⟩) (m + 1) c).ownBlock = some i) w).drewN q).setCell (p := ⟨k, m, none⟩) (fun _ => Or.inr rfl) _).setCell (p := ⟨g, n, none⟩) (fun _ => Or.inl rfl) _
  have hh := H.out
  rw [← HN.out] at hh hS ⊢
  refine hh.top (by rw [HN.out]; exact H0.out) (l' := l) (u' := .slice (some ⟨k, 0, none⟩) m c) hS ?_ ?_ (Or.inl rfl)
  · rw [HN.out]
    have h1 : (w.drewN q).ownsRow B 27 1 (.slice (some ⟨g, 0, none⟩) (n + 1) cap) (n + 1) (us0 ++ [.slice (some ⟨k, 0, none⟩) (m + 1) c]) := HOWN.out
    exact own_last (ownsRow_setCell_other (a := ⟨k, m, none⟩) h1 (by simp [Value.ownBlock]; exact hgk) _) H0.out
  · rw [HM.out]
    have h1 : (w.drewN q).ownsRow B 3 1 (.slice (some ⟨k, 0, none⟩) (m + 1) c) (m + 1) (ints l ++ [.int .i64 x]) := HOU.out
    exact ownsRow_setCell_other (own_shrinkE h1 (by rw [List.length_map]; exact HM.out)) (by simp [Value.ownBlock]; exact hkg) _
end
end Go.Proofs.Ytammpllfmbmdmaa
