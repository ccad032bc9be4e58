/- The walks of DFSPath and impl.Path. -/
import Derived.Test.YtndkjjfnlpkigaaDfs
import Derived.Sort.WalkB12
import Derived.Lib.SlicesMore
namespace Go.Proofs.Ytndkjjfnlpkigaa
open Go.RowKit Go.Sort
open Go.ChangeMaps (setBlock)

theorem own_holds {w : World} {base : Nat} {e : TypeId} {g cap n : Nat} {xs : List Int} (h : w.ownsRow base e 1 (.slice (some ⟨g, 0, none⟩) n cap) n (tvals xs)) : Holds tval w g 0 xs.toArray := by
  obtain ⟨hl, h2⟩ := h
  rcases h2 with ⟨h2, _⟩ | ⟨g', cap', cur, hv, hg, hh, hn, hc, hs, ht⟩
  · cases h2
  · injection hv with ha hn' hc'
    injection ha with ha
    injection ha with ha
    subst ha
    intro j hj
    have hj' : j < xs.length := by simpa using hj
    have hln : xs.length = n := by simpa using hl
    refine ⟨?_, ?_⟩
    · have h1 : (tvals xs)[j]? = some (tval xs[j]) := by simp [hj']
      rw [← ht, List.getElem?_take, if_pos (by omega), Array.getElem?_toList] at h1
      rw [Nat.zero_add, getElem!_pos _ j hj]
      unfold World.cell?
      rw [hh]
      simpa using h1
    · unfold World.frozen?
      rw [hh]
      simp

/-- The result of DFSPath: a slice of values xs. -/
def TSlice (M : Nat) (w : World) (xs : List Int) (S' : List Int) (e : Ending) (w' : World) : Prop :=
  ∃ A c, e = .returned (.slice A xs.length c) ∧ Reads w' (fun i => w.heap.size ≤ i) 1 A xs.length (tvals xs) ∧ Marks w' M S' ∧ Chg (· = M) w w'

set_option maxHeartbeats 1000000 in
theorem dfspath_any (gb M : Nat) (K : Nat → Prop) (A : Option Addr) (kk c : Nat) (G : List (List Int)) (z : Int) (U : List Int) (hU : ∀ x ∈ U, ∀ y ∈ adj G x, y ∈ U) (hfit : ∀ g ∈ G, g.length ≤ 2147483647) (hKM : ¬ K M) (hgM : gb ≠ M) (hUl : U.length ≤ 1099511627776)
    (a : Int) (w : World) (ha : a ∈ U) (hb : Blk w gb 43 #[.slice A kk c, .map (some M)]) (hg : GrIn w K A kk G) (hs : Marks w M []) :
    Calls Try.prog 16 #[.iface 40 (.pointer (some ⟨gb, 0, none⟩)), .func (.func 17) #[] #[], tval a, tval z] w fun e w' => ∃ xs S', TSlice M w xs.reverse S' e w' ∧ Found G z [] a S' xs ∧ xs.length ≤ U.length + 1 := by
  have HB := hide hb
  have HG := hide hg
  have HS := hide hs
  have HU := hide hU
  have HF := hide hfit
  have HUL := hide hUl
  have HKM := hide hKM
  have HGM := hide hgM
  have HUm := hide ha
  clear hg hs hU hfit hUl hKM hgM ha hb
  unfold tval
  go_enter Try.func16, Try.ntmps16
  go_wp2_with fail
  have h0b : Blk (w.alloc (.cells #[] 44)) gb 43 #[.slice A kk c, .map (some M)] := HB.out.alloc _
  have h0g : GrIn (w.alloc (.cells #[] 44)) K A kk G := HG.out.keep (by simp) (fun p hp _ => World.cell?_alloc_lt w _ p hp)
  have h0s : Marks (w.alloc (.cells #[] 44)) M [] := by
    obtain ⟨L, hL, hsn⟩ := HS.out
    exact ⟨L, hL.of_block (Below.heap_alloc _ _ _ hL.lt), hsn⟩
  have hMw : Hid (M < w.heap.size) := by obtain ⟨L, hL, _⟩ := HS.out; exact hL.lt
  refine (dfs_any gb M K A _ kk c G z U HU.out HF.out HKM.out HGM.out HUL.out _ [] a _ (Nat.le_refl _) HUm.out h0b h0g h0s).mono ?_
  rintro e w1 ⟨v, xs, S', rfl, hv, hm1, hc1, hfd, hxl⟩
  have HM1 := hide hm1
  have HFD := hide hfd
  have HC0 : Hid (Chg (· = M) w w1) := ((Chg.refl (· = M) w).alloc _).trans hc1 (fun _ _ h => h)
  have HXL : Hid (xs.length ≤ U.length + 1) := by have := fresh_le U []; exact Nat.le_trans hxl (by omega)
  clear h0b h0g h0s hm1 hc1 hfd hxl
  rcases hv with ⟨rfl, rfl⟩ | ⟨hne, hown⟩
  · go_wp2
    go_loopw [10] (fun i wr => i = .int .i64 (-1) ∧ wr = w1) (fun _ _ => 0)
    case atStart => exact ⟨rfl, rfl⟩
    case round =>
      obtain ⟨rfl, rfl⟩ := hrel
      go_wp2
      go_ret
      exact ⟨[], S', ⟨_, _, rfl, Reads.none_, HM1.out, HC0.out⟩, HFD.out, by simp⟩
  · obtain ⟨g, cap, hv, hbg, hlt⟩ := hown.form (List.length_pos_iff.2 hne)
    subst hv
    have hH := own_holds hown
    have hn : xs.length ≤ 1099511627777 := by have h1 := HXL.out; have h3 := HUL.out; omega
    have hpos : 0 < xs.length := List.length_pos_iff.2 hne
    have HH := hide hH
    have hbg' : w.heap.size ≤ g := by simp at hbg; omega
    have HBG := hide hbg'
    have HLT := hide hlt
    generalize hN : xs.length = n at hn hpos HXL
    have HN := hide hN
    clear hown hH hbg hbg' hlt hne hN
    go_wp2
    go_loopw [10, 11] (fun i _ wr => ∃ (q nn : Nat) (dk : Array Int), q ≤ n / 2 ∧ ((q = 0 ∧ i = .int .i64 (-1)) ∨ ∃ q', q = q' + 1 ∧ i = .int .i64 q') ∧ Hid (dk.size = n) ∧ Hid (wr = putRow tval (Sort.ahead w1 nn) g 0 dk) ∧
        Hid (∀ j, j < n → dk[j]! = if q ≤ j ∧ j + q < n then xs.toArray[n - 1 - j]! else xs.toArray[j]!)) (fun i _ _ => (intOf i + 1).toNat)
    case atStart =>
      refine ⟨n / 2, 0, xs.toArray, Nat.le_refl _, ?_, by show xs.toArray.size = n; simpa using HN.out, (putRow_self tval w1 g 0 _ HH.out).symm, fun j hj => ?_⟩
      · rcases Nat.eq_zero_or_pos (n / 2) with h | h
        · exact Or.inl ⟨h, by go_num⟩
        · exact Or.inr ⟨n / 2 - 1, by omega, by go_num⟩
      · split
        · rename_i h
          rw [show n - 1 - j = j by omega]
        · rfl
    case round =>
      obtain ⟨q, nn, dk, hq, hi, hds, hwr, hdk⟩ := hrel
      rcases hi with ⟨rfl, rfl⟩ | ⟨q', rfl, rfl⟩
      · have hfin : dk = xs.reverse.toArray := by
          have hN := HN.out
          have hD := hdk.out
          apply Array.ext
          · rw [hds.out]; simp [hN]
          · intro j h1 h2
            have hj : j < n := by rw [← hds.out]; exact h1
            have := hD j hj
            rw [if_pos ⟨Nat.zero_le _, by omega⟩, getElem!_pos dk j h1, getElem!_pos _ _ (by simp; omega)] at this
            rw [this]
            simp [hN]
        have hHk : Holds tval wr g 0 dk := by rw [hwr.out]; exact holds_putRow tval _ g 0 xs.toArray dk (holds_ahead tval w1 nn g 0 _ HH.out) (by rw [hds.out]; simpa using HN.out.symm)
        have HHK := hide hHk
        have HFIN := hide hfin
        clear hHk hfin
        go_wp2
        go_ret
        have hgM : g ≠ M := by have := hMw.out; have := HBG.out; omega
        have hA : Chg (fun i => i = g) w1 wr := by
          rw [hwr.out]
          refine ⟨rfl, rfl, rfl, by simp [putRow, mapBlock, Sort.ahead], fun k hk hkg => ?_⟩
          simp only [putRow, mapBlock, Sort.ahead, Array.getElem?_modify]
          rw [if_neg (fun e => hkg e.symm)]
        refine ⟨xs, S', ⟨some ⟨g, 0, none⟩, cap, ?_, ?_, ?_, ?_⟩, HFD.out, by rw [HN.out]; exact HXL.out⟩
        · rw [List.length_reverse, HN.out]; rfl
        · refine ⟨by simp, fun _ => ⟨_, rfl, HBG.out, Nat.lt_of_lt_of_le HLT.out hA.size, fun j u hu => ?_⟩⟩
          have hjl : j < xs.reverse.length := by
            have := (List.getElem?_eq_some_iff.1 hu).1
            simpa using this
          have h1 := (HHK.out j (by rw [HFIN.out]; simpa using hjl)).1
          rw [add_plain, h1, HFIN.out, getElem!_pos _ _ (by simpa using hjl)]
          rw [List.getElem?_map, List.getElem?_eq_getElem hjl] at hu
          simpa using hu
        · obtain ⟨L, hL, hsn⟩ := HM1.out
          exact ⟨L, hL.chg hA (fun e => hgM e.symm), hsn⟩
        · exact HC0.out.trans hA (fun i h1 h2 => by have := HBG.out; omega)
      · have hds' := hds.out
        have hHk : Holds tval wr g 0 dk := by rw [hwr.out]; exact holds_putRow tval _ g 0 xs.toArray dk (holds_ahead tval w1 nn g 0 _ HH.out) (by rw [hds']; simpa using HN.out.symm)
        obtain ⟨ci, fi⟩ := hHk q' (by omega)
        obtain ⟨cj, fj⟩ := hHk (n - q' - 1) (by omega)
        simp only [tval, Nat.zero_add] at ci cj fi fj
        have HWR := hide hwr.out
        have hq2 : 2 * q' + 2 ≤ n := by omega
        have hq3 : (1 : Int) ≤ (n : Int) - (q' : Int) := by omega
        have hq4 : (n : Int) - (q' : Int) - 1 < (n : Int) := by omega
        clear hHk hds'
        go_wp2
        generalize hx : dk[n - q' - 1]! = x at cj
        generalize hy : dk[q']! = y at ci
        have HX := hide hx
        have HY := hide hy
        clear hx hy
        go_region
        go_wp2
        go_roundw
        case measure => simp [intOf]
        case rel =>
          have hds' := hds.out
          refine ⟨q', nn + 1, swp dk q' (n - q' - 1), by omega, ?_, by show _ = _; rw [size_swp]; exact hds', ?_, ?_⟩
          · cases q' with
            | zero => exact Or.inl ⟨rfl, rfl⟩
            | succ q'' => exact Or.inr ⟨q'', rfl, by go_num⟩
          · have h7 := swap_world tval (w := w1) (n := nn) (blk := g) (off := 0) (i := q') (j := n - q' - 1) (by omega) (by omega) HWR.out (x := tval x) (y := tval y) (by rw [HX.out]) (by rw [HY.out])
            rw [Nat.zero_add, Nat.zero_add] at h7
            show _ = _
            rw [← h7]; rfl
          · intro j hj
            have hD := hdk.out
            unfold swp
            by_cases h1 : j = n - q' - 1
            · subst h1
              rw [getElem!_set_same _ _ _ (by simp; omega), if_pos ⟨by omega, by omega⟩, hD q' (by omega), if_neg (by omega), show n - 1 - (n - q' - 1) = q' by omega]
            · rw [getElem!_set_other _ _ _ _ h1]
              by_cases h2 : j = q'
              · subst h2
                rw [getElem!_set_same _ _ _ (by omega), if_pos ⟨by omega, by omega⟩, hD _ (by omega), if_neg (by omega), show n - j - 1 = n - 1 - j by omega]
              · rw [getElem!_set_other _ _ _ _ h2, hD j hj]
                by_cases h3 : q' + 1 ≤ j ∧ j + (q' + 1) < n
                · rw [if_pos h3, if_pos ⟨by omega, by omega⟩]
                · rw [if_neg h3, if_neg (by omega)]
end Go.Proofs.Ytndkjjfnlpkigaa
