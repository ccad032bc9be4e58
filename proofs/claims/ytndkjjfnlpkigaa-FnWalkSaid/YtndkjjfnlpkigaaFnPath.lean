/- The walk of the law FnPath: it returns true for every graph and all nodes. -/
import Derived.Test.YtndkjjfnlpkigaaPath3
import Derived.Test.YtndkjjfnlpkigaaFar
import Derived.Test.YtndkjjfnlpkigaaSpath
namespace Go.Proofs.Ytndkjjfnlpkigaa
open Go.RowKit

/-- No way was found: the node cannot be reached. -/
theorem Found.unreached {G : List (List Int)} {a z : Int} {S' : List Int} (h : Found G z [] a S' []) (hne : a ≠ z) (k : Nat) : z ∉ (stage G a k).1 := by
  have hc := h.none_ rfl
  have := stage_ind G a (fun x => x ∈ S' ∧ x ≠ z) ⟨h.here, hne⟩ (fun x hx y hy => hc x hx.1 (by simp) y hy) k
  intro hz
  exact (this z hz).2 rfl

/-- A way was found: the node is among those that can be reached. -/
theorem Found.reached {G : List (List Int)} {a z : Int} {S' xs : List Int} (h : Found G z [] a S' xs) (hx : xs ≠ []) {k : Nat} (hk : k = (stage G a k).1.length) : z ∈ (stage G a k).1 := by
  have hcl : ∀ x ∈ (stage G a k).1, ∀ y ∈ adj G x, y ∈ (stage G a k).1 := by
    intro x hxm
    obtain ⟨j, hj⟩ := List.mem_iff_getElem?.1 hxm
    have hjl := (List.getElem?_eq_some_iff.1 hj).1
    exact stage_closed G a k j x (by omega) hj
  have hgo := stage_good G a k
  have hlen := List.length_pos_iff.2 hx
  have hl : xs[xs.length - 1]? = some a := by
    have := h.last hx
    rwa [List.getLast?_eq_getElem?] at this
  have key : ∀ i, i < xs.length → ∀ x, xs[xs.length - 1 - i]? = some x → x ∈ (stage G a k).1 := by
    intro i
    induction i with
    | zero =>
      intro _ x hx0
      rw [Nat.sub_zero, hl] at hx0
      injection hx0 with hx0
      rw [← hx0]
      exact List.mem_of_getElem? hgo.head
    | succ i ih =>
      intro hi x hx0
      have h1 : xs[xs.length - 1 - i]? = some (xs[xs.length - 1 - i]'(by omega)) := List.getElem?_eq_getElem (by omega)
      have h2 := h.chain (xs.length - 1 - (i + 1)) x _ hx0 (by rw [show xs.length - 1 - (i + 1) + 1 = xs.length - 1 - i by omega]; exact h1)
      exact hcl _ (ih (by omega) _ h1) x h2
  refine key (xs.length - 1) (by omega) z ?_
  have := h.first hx
  rw [List.head?_eq_getElem?] at this
  rw [show xs.length - 1 - (xs.length - 1) = 0 by omega]
  exact this

theorem Found.const {S' xs : List Int} (h : Found [[1]] 1 [] 0 S' xs) : xs.length = 2 := by
  have adj0 : adj [[1]] 0 = [1] := by rfl
  have adjn : ∀ x y, y ∈ adj [[1]] x → x = 0 ∧ y = 1 := by
    intro x y hy
    unfold adj at hy
    split at hy
    · cases hy
    · rename_i hx
      obtain ⟨m, rfl⟩ := Int.eq_ofNat_of_zero_le (show 0 ≤ x by omega)
      cases m with
      | zero => simp at hy; exact ⟨rfl, hy⟩
      | succ m => simp at hy
  have hne : xs ≠ [] := by
    intro e
    exact (h.none_ e 0 h.here (by simp) 1 (by rw [adj0]; simp)).2 rfl
  have h2 := h.two hne
  have hf := h.first hne
  rw [List.head?_eq_getElem?] at hf
  have h1 : xs[1]? = some (xs[1]'(by omega)) := List.getElem?_eq_getElem (by omega)
  have c0 := adjn _ _ (h.chain 0 _ _ hf h1)
  rcases Nat.lt_or_ge 2 xs.length with h3 | h3
  · have h4 : xs[2]? = some (xs[2]'h3) := List.getElem?_eq_getElem h3
    have c1 := adjn _ _ (h.chain 1 _ _ h1 h4)
    rw [c0.1] at c1
    omega
  · omega

set_option maxHeartbeats 400000 in
/-- The constant call: impl.Path([][]int{{1}}, 0, 1) has two nodes. -/
theorem constpath (b1 b2 : Nat) (w : World) (h1 : Blk w b1 3 #[.int .i64 1]) (h2 : Blk w b2 26 #[.slice (some ⟨b1, 0, none⟩) 1 1]) :
    Calls Try.prog 9 #[.slice (some ⟨b2, 0, none⟩) 1 1, .int .i64 0, .int .i64 1] w fun e w' => ∃ A c, e = .returned (.slice A 2 c) ∧ Below w.heap.size w w' := by
  have hg : GrIn w (fun _ => True) (some ⟨b2, 0, none⟩) 1 [[1]] := by
    refine ⟨rfl, fun i hi => ?_⟩
    have : i = 0 := by omega
    subst this
    refine ⟨⟨b2, 0, none⟩, some ⟨b1, 0, none⟩, 1, rfl, trivial, h2.lt, ?_, by simp [maxLen], ?_⟩
    · rw [add_plain]; rw [h2.cell]; rfl
    · refine ⟨rfl, fun _ => ⟨_, rfl, trivial, h1.lt, fun j u hj => ?_⟩⟩
      rw [add_plain, Nat.zero_add, h1.cell]
      match j with
      | 0 => simpa using hj
      | j + 1 => simp at hj
  refine (implpath_any _ _ 1 1 [[1]] 0 1 (by intro g hg; simp at hg; subst hg; simp) (by omega) w hg).mono ?_
  rintro e w' ⟨xs, S', A, c, rfl, _, hb, hf, _⟩
  refine ⟨A, c, ?_, hb⟩
  rw [hf.const]

theorem fitsB_out {k : Nat} {G : List (List Int)} (h : fitsB k G = true) : ∀ g ∈ G, g.length ≤ 2147483647 := by
  unfold fitsB at h
  rw [decide_eq_true_eq] at h
  exact h.2

set_option maxHeartbeats 1000000 in
theorem fnPath_const (A : Option Addr) (kk c : Nat) (G : List (List Int)) (a z : Int) (w : World) (hg : GrIn w (fun _ => True) A kk G) (hk : kk ≤ maxLen) (hfit : fitsB kk G = true) (h : 30 < kk ∨ (kk ≤ 30 ∧ a = z)) :
    Calls Try.prog 4 #[.slice A kk c, .int .i64 a, .int .i64 z] w fun e w' => e = .returned (.bool true) ∧ Below w.heap.size w w' := by
  have HG := hide hg
  have hk2 := hk
  unfold maxLen at hk2
  clear hg
  have hb1 : Blk ((w.alloc (.cells #[.int .i64 1] 3)).alloc (.cells #[.slice (some ⟨w.heap.size, 0, none⟩) 1 1] 26)) w.heap.size 3 #[.int .i64 1] := (Blk.new w 3 _).alloc _
  have hb2 : Blk ((w.alloc (.cells #[.int .i64 1] 3)).alloc (.cells #[.slice (some ⟨w.heap.size, 0, none⟩) 1 1] 26)) (w.heap.size + 1) 26 #[.slice (some ⟨w.heap.size, 0, none⟩) 1 1] := by
    have := Blk.new (w.alloc (.cells #[.int .i64 1] 3)) 26 #[.slice (some ⟨w.heap.size, 0, none⟩) 1 1]
    rw [World.size_alloc] at this
    exact this
  have hbel : Below w.heap.size w ((w.alloc (.cells #[.int .i64 1] 3)).alloc (.cells #[.slice (some ⟨w.heap.size, 0, none⟩) 1 1] 26)) := ((Below.refl _ _).alloc (Nat.le_refl _) _).alloc (by simp) _
  have H1 := hide hb1
  have H2 := hide hb2
  have HB := hide hbel
  clear hb1 hb2 hbel
  rcases h with h | ⟨h, rfl⟩
  · go_enter Try.func4, Try.ntmps4
    go_wp2_with fail
    refine (fits6_any _ A kk c G _ HG.out hk).mono ?_
    rw [hfit]
    rintro e w1 ⟨rfl, rfl⟩
    go_wp2_with fail
    refine (constpath w.heap.size (w.heap.size + 1) _ H1.out H2.out).mono ?_
    rintro e w1 ⟨RA, rc, rfl, hb⟩
    have HB2 : Hid (Below w.heap.size w w1) := HB.out.trans (hb.mono (by simp; omega))
    clear hb
    go_wp2_with fail
    go_ret
    exact ⟨rfl, HB2.out⟩
  · have hne : (a == a) = true := by simp
    go_enter Try.func4, Try.ntmps4
    go_wp2_with fail
    refine (fits6_any _ A kk c G _ HG.out hk).mono ?_
    rw [hfit]
    rintro e w1 ⟨rfl, rfl⟩
    go_wp2_with fail
    refine (constpath w.heap.size (w.heap.size + 1) _ H1.out H2.out).mono ?_
    rintro e w1 ⟨RA, rc, rfl, hb⟩
    have HB2 : Hid (Below w.heap.size w w1) := HB.out.trans (hb.mono (by simp; omega))
    clear hb
    go_wp2_with fail
    go_ret
    exact ⟨rfl, HB2.out⟩

set_option maxHeartbeats 2000000 in
theorem fnPath_main (A : Option Addr) (kk c : Nat) (G : List (List Int)) (a z : Int) (w : World) (hg : GrIn w (fun _ => True) A kk G) (hk : kk ≤ maxLen) (hfit : fitsB kk G = true) (h30 : kk ≤ 30) (haz : (a == z) = false) :
    Calls Try.prog 4 #[.slice A kk c, .int .i64 a, .int .i64 z] w fun e w' => e = .returned (.bool true) ∧ Below w.heap.size w w' := by
  have HG := hide hg
  have hk2 := hk
  unfold maxLen at hk2
  have hfl : Hid (G.flatten.length < 1099511627776) := by
    have h1 := flatten_le (fitsB_out hfit)
    have h2 : G.length ≤ 30 := by have := hg.1; omega
    have h3 : G.length * 2147483647 ≤ 30 * 2147483647 := Nat.mul_le_mul_right _ h2
    show G.flatten.length < 1099511627776
    omega
  have HF := hide (fitsB_out hfit)
  clear hg
  go_enter Try.func4, Try.ntmps4
  go_wp2_with fail
  refine (fits6_any _ A kk c G _ HG.out hk).mono ?_
  rw [hfit]
  rintro e w1 ⟨rfl, rfl⟩
  go_wp2_with fail
  refine (implpath_any _ A kk c G a z HF.out h30 w HG.out).mono ?_
  rintro e w1 ⟨xs, S', LA, lc, rfl, hr, hb, hfd, hxl⟩
  have HR := hide hr
  have HB := hide hb
  have HFD := hide hfd
  have HG1 : Hid (GrIn w1 (fun i => i < w.heap.size) A kk G) := HG.out.old.keep hb.size (fun p hp _ => hb.cell hp)
  have hsz := hb.size
  clear hr hb hfd
  go_wp2_with fail
  refine (far_any _ A kk c G a HF.out hfl.out w1 HG1.out (fun i hi => by omega)).mono ?_
  rintro e w2 ⟨k, v4, v5, hkl, rfl, g, h, cg, ch, rfl, rfl, _, hN, _, hb2⟩
  have hrN := Reads.of_own hN
  have HRN := hide hrN
  have HB2 := hide hb2
  have HKL := hide hkl
  have hnl : (stage G a k).1.length ≤ 1099511627776 := by
    have hgo := stage_good G a k
    have h1 := nodup_le _ (a :: G.flatten) hgo.nodup hgo.mem
    have h2 := hfl.out
    rw [List.length_cons] at h1; omega
  clear hrN hN hb2 hkl
  generalize hN : (stage G a k).1 = N at *
  have HN := hide hN
  generalize hn : N.length = n at *
  have HNn := hide hn
  clear hN hn
  go_wp2
  go_loop [10, 12, 42] (fun b _ i => ∃ j : Nat, j ≤ n ∧ i = .int .i64 j ∧ ((b = .bool true ∧ Hid (z ∈ N.take j)) ∨ (b = .bool false ∧ Hid (z ∉ N.take j)))) (fun _ _ i => n - (intOf i).toNat)
  case atStart => exact ⟨0, Nat.zero_le _, rfl, Or.inr ⟨rfl, by simp [Hid]⟩⟩
  case round =>
    obtain ⟨j, hj, rfl, hb⟩ := hrel
    by_cases hlt : j < n
    · obtain ⟨ad, u, e0, _, hx, hc⟩ := HRN.out.at_ hlt
      injection e0 with e0
      subst e0
      obtain ⟨rfl, hjl⟩ := ints_at hx
      rw [add_plain, Nat.zero_add] at hc
      obtain ⟨y, hy⟩ : ∃ y, y = N.getD j 0 := ⟨_, rfl⟩
      rw [← hy] at hc
      have HY := hide hy
      have hts := take_succ_getD hy hjl
      have HTS := hide hts
      clear hx hy hts
      rcases hb with ⟨rfl, hin⟩ | ⟨rfl, hin⟩
      · go_wp2
        go_round
        case rel => exact ⟨j + 1, by omega, by go_num, Or.inl ⟨rfl, by show _ ∈ _; rw [HTS.out]; exact List.mem_append_left _ hin.out⟩⟩
        case measure => simp [intOf]; omega
      · by_cases hyz : y = z
        · subst hyz
          have hyy : (y == y) = true := by simp
          go_wp2
          go_round
          case rel => exact ⟨j + 1, by omega, by go_num, Or.inl ⟨rfl, by show _ ∈ _; rw [HTS.out]; simp⟩⟩
          case measure => simp [intOf]; omega
        · have hyz' : (y == z) = false := beq_eq_false_iff_ne.2 hyz
          have HYZ := hide hyz
          clear hyz
          go_wp2
          go_round
          case rel => exact ⟨j + 1, by omega, by go_num, Or.inr ⟨rfl, by show _ ∉ _; rw [HTS.out]; simp; exact ⟨hin.out, fun e => HYZ.out e.symm⟩⟩⟩
          case measure => simp [intOf]; omega
    · have hb1 : Blk ((w2.alloc (.cells #[.int .i64 1] 3)).alloc (.cells #[.slice (some ⟨w2.heap.size, 0, none⟩) 1 1] 26)) w2.heap.size 3 #[.int .i64 1] := (Blk.new w2 3 _).alloc _
      have hb2 : Blk ((w2.alloc (.cells #[.int .i64 1] 3)).alloc (.cells #[.slice (some ⟨w2.heap.size, 0, none⟩) 1 1] 26)) (w2.heap.size + 1) 26 #[.slice (some ⟨w2.heap.size, 0, none⟩) 1 1] := by
        have := Blk.new (w2.alloc (.cells #[.int .i64 1] 3)) 26 #[.slice (some ⟨w2.heap.size, 0, none⟩) 1 1]
        rw [World.size_alloc] at this
        exact this
      have HW2 : Hid (Below w2.heap.size w2 ((w2.alloc (.cells #[.int .i64 1] 3)).alloc (.cells #[.slice (some ⟨w2.heap.size, 0, none⟩) 1 1] 26))) := ((Below.refl _ _).alloc (Nat.le_refl _) _).alloc (by simp) _
      have H1 := hide hb1
      have H2 := hide hb2
      have hs2 := HB2.out.size
      clear hb1 hb2
      have hjn : N.take j = N := by rw [show j = n by omega, ← HNn.out, List.take_length]
      rcases hb with ⟨rfl, hin⟩ | ⟨rfl, hin⟩
      · have hzN : z ∈ N := by rw [← hjn]; exact hin.out
        have hxne : xs ≠ [] := by
          intro e
          rw [e] at HFD
          exact HFD.out.unreached (by simpa using haz) k (by rw [HN.out]; exact hzN)
        have hpos := List.length_pos_iff.2 hxne
        have HFX := hide hxne
        clear hjn hzN hxne
        go_wp2_with fail
        refine (constpath w2.heap.size (w2.heap.size + 1) _ H1.out H2.out).mono ?_
        rintro e w3 ⟨RA, rc, rfl, hb3⟩
        have HB3 : Hid (Below w2.heap.size w2 w3) := HW2.out.trans (hb3.mono (by simp; omega))
        clear hb3
        have hgl : GrIn w3 (fun i => i < w.heap.size) A kk G := (HG1.out.keep hs2 (fun p hp _ => HB2.out.cell hp)).keep HB3.out.size (fun p hp _ => HB3.out.cell hp)
        have hrl : Reads w3 (fun i => w.heap.size ≤ i) 1 LA xs.length (ints xs.reverse) := (HR.out.below HB2.out).below HB3.out
        have HGL := hide hgl
        have HRL := hide hrl
        clear hgl hrl
        go_wp2_with fail
        refine (spath_any _ A kk c G a z LA xs.length _ xs.reverse w3 HGL.out _ HRL.out (by omega) hpos ?_ ?_ ?_).mono ?_
        · have := HFD.out.last HFX.out
          rw [List.getLast?_eq_getElem?] at this
          rw [List.getElem?_reverse (by omega)]
          exact this
        · have := HFD.out.first HFX.out
          rw [List.head?_eq_getElem?] at this
          rw [List.getElem?_reverse (by omega), show xs.length - 1 - (xs.length - 1) = 0 by omega]
          exact this
        · intro i x y hx hy
          have hi : i + 1 < xs.length := by
            have := (List.getElem?_eq_some_iff.1 hy).1
            simpa using this
          rw [List.getElem?_reverse (by omega)] at hx hy
          refine HFD.out.chain (xs.length - 1 - (i + 1)) y x hy ?_
          rw [show xs.length - 1 - (i + 1) + 1 = xs.length - 1 - i by omega]
          exact hx
        rintro e w4 ⟨rfl, rfl⟩
        go_wp2
        go_ret
        exact ⟨rfl, HB.out.trans ((HB2.out.mono hsz).trans (HB3.out.mono (by omega)))⟩
      · have hzN : z ∉ N := by rw [← hjn]; exact hin.out
        have hxe : xs = [] := Classical.byContradiction fun h => hzN (by rw [← HN.out]; exact HFD.out.reached h (by rw [HN.out, HNn.out]; exact HKL.out))
        subst hxe
        clear hjn hzN
        go_wp2_with fail
        refine (constpath w2.heap.size (w2.heap.size + 1) _ H1.out H2.out).mono ?_
        rintro e w3 ⟨RA, rc, rfl, hb3⟩
        have HB3 : Hid (Below w2.heap.size w2 w3) := HW2.out.trans (hb3.mono (by simp; omega))
        clear hb3
        go_wp2
        go_ret
        exact ⟨rfl, HB.out.trans ((HB2.out.mono hsz).trans (HB3.out.mono (by omega)))⟩

theorem fnPath_any (A : Option Addr) (kk c : Nat) (G : List (List Int)) (a z : Int) (w : World) (hg : GrIn w (fun _ => True) A kk G) (hk : kk ≤ maxLen) :
    Calls Try.prog 4 #[.slice A kk c, .int .i64 a, .int .i64 z] w fun e w' => e = .returned (.bool true) ∧ Below w.heap.size w w' := by
  have HG := hide hg
  have hk2 := hk
  unfold maxLen at hk2
  clear hg
  by_cases hfit : fitsB kk G = true
  · by_cases h30 : 30 < kk
    · exact fnPath_const A kk c G a z w HG.out hk hfit (Or.inl h30)
    · by_cases haz : a = z
      · exact fnPath_const A kk c G a z w HG.out hk hfit (Or.inr ⟨by omega, haz⟩)
      · exact fnPath_main A kk c G a z w HG.out hk hfit (by omega) (beq_eq_false_iff_ne.2 haz)
  · have hfit' : fitsB kk G = false := by simpa using hfit
    clear hfit
    go_enter Try.func4, Try.ntmps4
    go_wp2_with fail
    refine (fits6_any _ A kk c G _ HG.out hk).mono ?_
    rw [hfit']
    rintro e w1 ⟨rfl, rfl⟩
    go_wp2_with fail
    go_ret
    exact ⟨rfl, Below.refl _ _⟩
end Go.Proofs.Ytndkjjfnlpkigaa
