/- The walk of spec.keys. Under sizes alone. -/
import Derived.Test.YtammpllfmbmdmaaSp3
import Derived.Test.YtammpllfmbmdmaaBw
namespace Go.Proofs.Ytammpllfmbmdmaa
open Go.RowKit

theorem sorted_keys {xs : List Int} {l : List (Int × Int)} (h : xs.Pairwise (· ≤ ·)) (hp : xs.Perm (l.map (·.1))) : xs = keysL l := by
  refine List.Perm.eq_of_pairwise (le := fun x y => x ≤ y) (fun x y _ _ h1 h2 => by omega) h ?_ (hp.trans (List.mergeSort_perm _ _).symm)
  have := List.pairwise_mergeSort (le := fun x y : Int => decide (x ≤ y)) (fun a b c h1 h2 => by rw [decide_eq_true_eq] at *; omega) (fun a b => by simp; omega) (l.map (·.1))
  exact this.imp (fun h => by simpa using h)

theorem insert_sorted' {xs : List Int} {i : Nat} {x : Int} (h : xs.Pairwise (· ≤ ·)) (h1 : ∀ y ∈ xs.take i, y < x) (h2 : ∀ y, xs[i]? = some y → x ≤ y) : (xs.take i ++ x :: xs.drop i).Pairwise (· ≤ ·) := by
  have hs : (xs.take i ++ xs.drop i).Pairwise (· ≤ ·) := by rw [List.take_append_drop]; exact h
  obtain ⟨p1, p2, p3⟩ := List.pairwise_append.1 hs
  have hd : ∀ y ∈ xs.drop i, x ≤ y := by
    intro y hy
    cases hx : xs.drop i with
    | nil => rw [hx] at hy; cases hy
    | cons z t =>
      have hz : xs[i]? = some z := by
        have : (xs.drop i)[0]? = some z := by rw [hx]; rfl
        simpa using this
      have h3 := h2 z hz
      rw [hx] at hy p2
      rcases List.mem_cons.1 hy with rfl | hy
      · exact h3
      · have := (List.pairwise_cons.1 p2).1 y hy
        omega
  refine List.pairwise_append.2 ⟨p1, List.pairwise_cons.2 ⟨hd, p2⟩, fun a ha b hb => ?_⟩
  have := h1 a ha
  rcases List.mem_cons.1 hb with rfl | hb
  · omega
  · have := hd b hb; omega

/-- The keys so far. -/
structure KeysI (w wr : World) (j : Nat) (l : List (Int × Int)) (A : Option Addr) (c : Nat) (xs : List Int) : Prop where
  bel : Below w.heap.size w wr
  sl : SliceIs wr (Row3 wr) A j c xs
  sorted : xs.Pairwise (· ≤ ·)
  perm : xs.Perm ((l.take j).map (·.1))

set_option linter.unusedVariables false in
set_option linter.unusedSimpArgs false in
set_option maxHeartbeats 2000000 in
set_option maxRecDepth 100000 in
theorem keys_spec (K : Nat → Prop) (A : Option Addr) (n c : Nat) (l : List (Int × Int)) (w : World) (h : PairsIn w K A n c l) (hn : n ≤ 274877906944) :
    Calls Try.prog 66 #[.slice A n c] w fun e w' => ∃ A' c', e = .returned (.slice A' n c') ∧ SliceIs w' (Row3 w') A' n c' (keysL l) ∧ Below w.heap.size w w' := by
  have H := hide (h.more (K' := fun i => i < w.heap.size) (fun _ hi _ => hi))
  clear h
  go_enter Try.func66, Try.ntmps66
  go_wp2
  go_loopw [3, 9] (fun s3 i wr => ∃ (j : Nat) (B : Option Addr) (d : Nat) (xs : List Int), j ≤ n ∧ i = .int .i64 j ∧ s3 = .slice B j d ∧ Hid (KeysI w wr j l B d xs)) (fun _ i _ => n - (intOf i).toNat)
  case atStart => exact ⟨0, none, 0, [], Nat.zero_le _, rfl, rfl, Below.refl _ _, SliceIs.none_, List.Pairwise.nil, List.Perm.refl _⟩
  case round =>
    obtain ⟨j, B, d, xs, hj, rfl, rfl, hK⟩ := hrel
    by_cases hlt : j < n
    · obtain ⟨ad, q, rfl, hq, hl, e1, e2⟩ := (H.out.keep hK.out.bel.size (fun p hp _ => hK.out.bel.cell hp)).at_ hlt
      have HQ := hide hq
      have hbA : Below wr.heap.size wr (wr.alloc (.cells #[.int .i64 q.1, .int .i64 q.2] 91)) := (Below.refl _ _).alloc (Nat.le_refl _) _
      have hx0 : Blk (wr.alloc (.cells #[.int .i64 q.1, .int .i64 q.2] 91)) wr.heap.size 91 #[.int .i64 q.1, .int .i64 q.2] := Blk.new _ _ _
      have HSL := hide ((hK.out.sl.below hbA).more (K' := fun i => i < wr.heap.size) (fun _ _ ⟨_, h⟩ => h.lt))
      have HBA := hide (hK.out.bel.trans (hbA.mono hK.out.bel.size))
      have HX := hide hx0
      have hws : wr.heap.size ≤ (wr.alloc (.cells #[.int .i64 q.1, .int .i64 q.2] 91)).heap.size := hbA.size
      have HWS := hide hws
      clear hq hbA hx0 hws
      go_wp2_with fail
      generalize wr.alloc (.cells #[.int .i64 q.1, .int .i64 q.2] 91) = w1 at *
      have x0 : w1.cell? ⟨wr.heap.size, 0, none⟩ = some (.int .i64 q.1) := by rw [HX.out.cell]; rfl
      clear e1 e2
      go_loopw [6] (fun s6 wi => ∃ i m : Nat, i ≤ j ∧ s6 = .int .i64 i ∧ wi = w1.drewN m ∧ Hid (∀ y ∈ xs.take i, y < q.1)) (fun s6 _ => j - (intOf s6).toNat)
      case atStart => exact ⟨0, 0, Nat.zero_le _, rfl, rfl, by simp [Hid]⟩
      case round =>
        obtain ⟨i, m, hi, rfl, rfl, hlow⟩ := hrel
        have hfin : ∀ m', (∀ y, xs[i]? = some y → q.1 ≤ y) → Hid (∀ v' w2, w2.ownsRow (w1.drewN m').heap.size 3 1 v' (j + 1) (ints (xs.take i ++ q.1 :: xs.drop i)) → Gr (w1.drewN m') w2 → ∃ A' c', v' = .slice A' (j + 1) c' ∧ KeysI w w2 (j + 1) l A' c' (xs.take i ++ q.1 :: xs.drop i)) := fun m' hge v' w2 ho hg => by
          obtain ⟨A', c', rfl, hrd⟩ := own_reads ho
          have h00 := SliceIs.of_own ho
          refine ⟨A', c', rfl, ?_, h00, insert_sorted' hK.out.sorted hlow.out hge, ?_⟩
          · have h1 : Chg (fun _ => False) w1 w2 := ((Chg.refl (fun _ => False) w1).drewN m').trans hg (fun _ _ h => h)
            exact HBA.out.trans (h1.below HBA.out.size (fun _ h => h.elim))
          · rw [List.take_add_one, HQ.out]
            simp only [Option.toList_some, List.map_append, List.map_cons, List.map_nil]
            refine List.Perm.trans ?_ (List.perm_append_comm.trans (by rfl))
            refine List.perm_middle.trans ?_
            rw [List.take_append_drop]
            exact hK.out.perm.cons _
        by_cases hij : i < j
        · obtain ⟨ad2, u, rfl, hb2, hxi, hcx⟩ := HSL.out.reads.at_ hij
          obtain ⟨rfl, hil⟩ := ints_at hxi
          have hii : (i : Int) < (j : Int) := by omega
          have hi0 : (0 : Int) ≤ (i : Int) := by omega
          have hid : decide ((i : Int) < (j : Int)) = true := decide_eq_true hii
          by_cases hlow2 : xs.getD i 0 < q.1
          · have hx := hxi
            generalize hxv : xs.getD i 0 = xv at *
            have hxd : decide (xv < q.1) = true := decide_eq_true hlow2
            clear hfin
            go_wp2_with fail
            go_quiet (fail)
            go_wp2
            go_roundw
            case rel =>
              refine ⟨i + 1, _, by omega, by go_num, rfl, ?_⟩
              show ∀ y ∈ xs.take (i + 1), y < q.1
              intro y hy
              rw [List.take_add_one, List.getElem?_eq_getElem hil] at hy
              rcases List.mem_append.1 hy with hy | hy
              · exact hlow.out y hy
              · have e1 : y = xs[i] := by simpa using hy
                have e2 : xs.getD i 0 = xs[i] := by rw [List.getD_eq_getElem?_getD, List.getElem?_eq_getElem hil]; rfl
                rw [e1, ← e2, hxv]; exact hlow2
            case measure => simp [intOf]; omega
          · have hge : ∀ y, xs[i]? = some y → q.1 ≤ y := fun y hy => by
              have e2 : xs.getD i 0 = y := by rw [List.getD_eq_getElem?_getD, hy]; rfl
              omega
            generalize hxv : xs.getD i 0 = xv at *
            have hxd : decide (xv < q.1) = false := decide_eq_false hlow2
            go_wp2_with fail
            go_quiet (fail)
            have hw := with_any (fun i => i < wr.heap.size) _ j d i xs q.1 (w1.drewN (m + nq)) (HSL.out.keep (Nat.le_refl _) (fun _ _ _ => rfl)) hi (by omega)
            have HW := hide hw
            have HFIN := hfin (m + nq) hge
            clear hw hfin hge
            go_wp2_with fail
            refine HW.out.mono ?_
            rintro e w2 ⟨v', rfl, ho, hg⟩
            obtain ⟨A', c', rfl, hKI⟩ := HFIN.out v' w2 ho hg
            have HKI := hide hKI
            clear ho hg hKI
            go_wp2
            go_roundw
            case rel => exact ⟨j + 1, A', c', _, by omega, by go_num, rfl, HKI.out⟩
            case measure => simp [intOf]; omega
        · have hge : ∀ y, xs[i]? = some y → q.1 ≤ y := fun y hy => by
            have h1 := (List.getElem?_eq_some_iff.1 hy).1
            have h2 := HSL.out.len
            omega
          have hii : ¬ (i : Int) < (j : Int) := by omega
          have hid : decide ((i : Int) < (j : Int)) = false := decide_eq_false hii
          go_wp2_with fail
          go_quiet (fail)
          have hw := with_any (fun i => i < wr.heap.size) _ j d i xs q.1 (w1.drewN (m + nq)) (HSL.out.keep (Nat.le_refl _) (fun _ _ _ => rfl)) hi (by omega)
          have HW := hide hw
          have HFIN := hfin (m + nq) hge
          clear hw hfin hge
          go_wp2_with fail
          refine HW.out.mono ?_
          rintro e w2 ⟨v', rfl, ho, hg⟩
          obtain ⟨A', c', rfl, hKI⟩ := HFIN.out v' w2 ho hg
          have HKI := hide hKI
          clear ho hg hKI
          go_wp2
          go_roundw
          case rel => exact ⟨j + 1, A', c', _, by omega, by go_num, rfl, HKI.out⟩
          case measure => simp [intOf]; omega
    · have hl := H.out.len
      have hjn : j = n := by omega
      subst hjn
      have hK2 := hK.out
      have hp := hK2.perm
      rw [List.take_of_length_le (by omega)] at hp
      have hxs := sorted_keys hK2.sorted hp
      have HR : Hid (SliceIs wr (Row3 wr) B j d (keysL l)) := by rw [← hxs]; exact hK2.sl
      have HB := hide hK2.bel
      clear hK2 hp hxs hl
      go_wp2
      go_ret
      exact ⟨B, d, rfl, HR.out, HB.out⟩
end Go.Proofs.Ytammpllfmbmdmaa
