/- The walk of impl.Path. -/
import Derived.Test.YtndkjjfnlpkigaaPath2
namespace Go.Proofs.Ytndkjjfnlpkigaa
open Go.RowKit
open Go.ChangeMaps (setBlock)

theorem GrIn.old {w : World} {K : Nat → Prop} {A : Option Addr} {k : Nat} {G : List (List Int)} (h : GrIn w K A k G) : GrIn w (fun i => i < w.heap.size) A k G :=
  ⟨h.1, fun i hi => by
    obtain ⟨ad, Ai, ci, e, hb, hl, hc, hm, hr⟩ := h.2 i hi
    exact ⟨ad, Ai, ci, e, hl, hl, hc, hm, hr.more (fun j hj _ => hj)⟩⟩

theorem flatten_le {G : List (List Int)} {b : Nat} (h : ∀ g ∈ G, g.length ≤ b) : G.flatten.length ≤ G.length * b := by
  induction G with
  | nil => simp
  | cons g G ih =>
    have h1 := h g (List.mem_cons_self ..)
    have h2 := ih (fun x hx => h x (List.mem_cons_of_mem _ hx))
    simp only [List.flatten_cons, List.length_append, List.length_cons, Nat.succ_mul]
    omega

/-- What impl.Path hands back. -/
def PathOut (G : List (List Int)) (a z : Int) (w : World) (e : Ending) (w' : World) : Prop :=
  ∃ (xs S' : List Int) (A : Option Addr) (c : Nat), e = .returned (.slice A xs.length c) ∧ Reads w' (fun i => w.heap.size ≤ i) 1 A xs.length (ints xs.reverse) ∧ Below w.heap.size w w' ∧ Found G z [] a S' xs ∧ xs.length ≤ 1099511627777

set_option maxHeartbeats 1000000 in
theorem implpath_any (K : Nat → Prop) (A : Option Addr) (kk c : Nat) (G : List (List Int)) (a z : Int) (hfit : ∀ g ∈ G, g.length ≤ 2147483647) (hk : kk ≤ 30) (w : World) (hg : GrIn w K A kk G) :
    Calls Try.prog 9 #[.slice A kk c, .int .i64 a, .int .i64 z] w (PathOut G a z w) := by
  have hmm := @run_makeMap Try.prog
  have HG := hide hg.old
  have HF := hide hfit
  clear hg hfit
  go_enter Try.func9, Try.ntmps9
  go_wp2_with fail
  generalize hW : (w.alloc (.map #[] 0)).alloc (.cells #[.slice A kk c, .map (some w.heap.size)] 43) = W
  have hWs : W.heap.size = w.heap.size + 2 := by rw [← hW]; simp
  have hWb : Below w.heap.size w W := by rw [← hW]; exact ((Below.refl _ _).alloc (Nat.le_refl _) _).alloc (by simp) _
  have h0b : Blk W (w.heap.size + 1) 43 #[.slice A kk c, .map (some w.heap.size)] := by
    rw [← hW]
    have := Blk.new (w.alloc (.map #[] 0)) 43 #[.slice A kk c, .map (some w.heap.size)]
    simpa using this
  have h0s : Marks W w.heap.size [] := by
    rw [← hW]
    refine ⟨[], (IMap.new w).of_block (Below.heap_alloc _ _ _ (by simp)), fun x => by simp⟩
  have h0g : GrIn W (fun i => i < w.heap.size) A kk G := HG.out.keep hWb.size (fun p hp _ => hWb.cell hp)
  have hUl : (a :: G.flatten).length ≤ 1099511627776 := by
    have h1 := flatten_le HF.out
    have h2 : G.length ≤ 30 := by have := HG.out.1; omega
    have h3 : G.length * 2147483647 ≤ 30 * 2147483647 := Nat.mul_le_mul_right _ h2
    simp only [List.length_cons]; omega
  refine (dfspath_any (w.heap.size + 1) w.heap.size (fun i => i < w.heap.size) A kk c G z (a :: G.flatten) (fun x _ y hy => List.mem_cons_of_mem _ (adj_mem hy)) HF.out (by simp) (by omega) hUl a W (List.mem_cons_self ..) h0b h0g h0s).mono ?_
  rintro e w1 ⟨xs, S', ⟨RA, rc, rfl, hr, hm, hcg⟩, hfd, hxl⟩
  rw [List.length_reverse] at hr ⊢
  have HXS := hide (show xs.reverse.length = xs.length from List.length_reverse)
  have HB1 : Hid (Below w.heap.size w w1) := hWb.trans (hcg.below (by omega) (fun i hi => by omega))
  have hn : xs.length ≤ 1099511627777 := by omega
  have HR : Hid (Reads w1 (fun i => w.heap.size ≤ i) 1 RA xs.length (tvals xs.reverse)) := hr.more (fun i _ h => by omega)
  have HFD := hide hfd
  generalize hN : xs.length = n at hn HR HXS
  have HN := hide hN
  generalize hY : xs.reverse = ys at HR HXS
  have HY := hide hY
  obtain ⟨i0, hi, hz0, hz1, hz2⟩ := info_parts info3b
  have hta := fun x W => assert_int x W
  clear hW hWb h0b h0s h0g hUl hm hcg hfd hxl hWs hr hN hY
  go_wp2
  go_loopw [7, 9, 21] (fun v _ i wr => ∃ j : Nat, j ≤ n ∧ i = .int .i64 j ∧ wr.ownsRow w1.heap.size 3 1 v j (ints (ys.take j)) ∧ Below w1.heap.size w1 wr) (fun _ _ i _ => n - (intOf i).toNat)
  case atStart => exact ⟨0, Nat.zero_le _, rfl, World.ownsRow_nil _ _ _ _, Below.refl _ _⟩
  case round =>
    obtain ⟨j, hj, rfl, hown, hbel⟩ := hrel
    by_cases hlt : j < n
    · have hlj : j < ys.length := by rw [HXS.out]; exact hlt
      obtain ⟨ad, y0, rfl, _, hx, hc⟩ := (HR.out.below hbel).at_ hlt
      obtain ⟨y, hyj⟩ : ∃ y, y = ys.getD j 0 := ⟨_, rfl⟩
      have hy0 : y0 = .iface 3 (.int .i64 y) := by
        rw [List.getElem?_map, List.getElem?_eq_getElem hlj] at hx
        have h1 : tval ys[j] = y0 := by simpa using hx
        rw [← h1, hyj, List.getD_eq_getElem?_getD, List.getElem?_eq_getElem hlj]; rfl
      subst hy0
      have HX := hide hyj
      have hBS := hbel.size
      clear hx hyj
      go_wp2_with (at_builtin; go_must (refine wpList_append_own _ rfl _ _ 26 rfl w1.heap.size 3 i0 (.int .i64 0) 1 8 Try.underlying26 hi hz0 hz1 hz2 rfl (by decide) _ _ _ rfl (hown.alloc _) ⟨wr.heap.size, 0, none⟩ 1 1 [.int .i64 y] rfl rfl (cell_one_new _ _ _) (by simp [Value.oneCell']) (by unfold maxLen; omega) (by omega) (by simp; omega) ?_); intro v' w2 hown' hgrow _)
      have hb2 : Hid (Below w1.heap.size w1 w2) := own_append_below hown hbel hgrow (Nat.le_refl _) hBS
      have HO := hide hown'
      clear hown' hgrow hown hbel
      go_wp2
      go_roundw
      case rel =>
        refine ⟨j + 1, by omega, by go_num, ?_, hb2.out⟩
        have h9 : ints (ys.take (j + 1)) = ints (ys.take j) ++ [.int .i64 y] := map_take_succ (Value.int .i64) HX.out hlj
        rw [h9]
        exact HO.out
      case measure => simp [intOf]; omega
    · have hjl : j = n := by omega
      have HO : Hid (wr.ownsRow w1.heap.size 3 1 u7 n (ints ys)) := by
        have := hown
        rw [hjl, ← HXS.out, List.take_length, HXS.out] at this
        exact this
      have HBe := hide hbel
      clear hown hbel hjl
      go_wp2
      go_ret
      have hBS := HB1.out.size
      obtain ⟨XA, xc, hxe, hxr⟩ := own_reads HO.out
      refine ⟨xs, S', XA, xc, ?_, ?_, HB1.out.trans (HBe.out.mono hBS), HFD.out, by rw [HN.out]; omega⟩
      · rw [HN.out, ← hxe]; rfl
      · rw [HN.out, HY.out]
        exact hxr.more (fun i _ h => by omega)
end Go.Proofs.Ytndkjjfnlpkigaa
