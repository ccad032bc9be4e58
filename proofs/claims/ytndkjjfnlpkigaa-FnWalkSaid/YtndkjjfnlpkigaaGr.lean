/- The walks of the graph functions of the reference and of the graph type: has, Edges, zzFits6, graph.Edges, graph.Visited. -/
import Derived.Test.YtndkjjfnlpkigaaRows
import Derived.Test.YtndkjjfnlpkigaaPure
import Derived.Deep.LoopGhost
import Derived.Deep.QuietTactic
import Derived.BigQuiet
namespace Go.Proofs.Ytndkjjfnlpkigaa
open Go.RowKit
open Go.ChangeMaps (setBlock)

theorem info3b : (Try.prog.info? 3).map (fun i => (i.zero, i.size, i.bytes)) = some (some (.int .i64 0), 1, 8) := by kernel_rfl

set_option maxHeartbeats 400000 in
theorem has_any (K : Nat → Prop) (A : Option Addr) (m c : Nat) (xs : List Int) (n : Int) (w : World) (hr : Reads w K 1 A m (ints xs)) (hm : m ≤ 9223372036854775807) :
    Calls Try.prog 19 #[.slice A m c, .int .i64 n] w fun e w' => e = .returned (.bool (decide (n ∈ xs))) ∧ w = w' := by
  have hl : xs.length = m := by have := hr.1; simpa using this
  have HL := hide hl
  clear hl
  go_enter Try.func19, Try.ntmps19
  go_wp2
  go_loop [6, 9] (fun _ i => ∃ k : Nat, k ≤ m ∧ i = .int .i64 k ∧ Hid (n ∉ xs.take k)) (fun _ i => m - (intOf i).toNat)
  case atStart => exact ⟨0, Nat.zero_le _, rfl, by simp [Hid]⟩
  case round =>
    obtain ⟨k, hk, rfl, hno⟩ := hrel
    by_cases hlt : k < m
    · obtain ⟨ad, u, rfl, hb, hx, hc⟩ := hr.at_ hlt
      obtain ⟨rfl, hkl⟩ := ints_at hx
      clear hx hb
      obtain ⟨x, hx⟩ : ∃ x, x = xs.getD k 0 := ⟨_, rfl⟩
      rw [← hx] at hc
      have HX := hide hx
      clear hx
      by_cases hxn : x = n
      · subst hxn
        go_wp2
        go_ret
        have hm : x ∈ xs := by
          have hX := HX.out
          rw [List.getD_eq_getElem?_getD, List.getElem?_eq_getElem hkl] at hX
          simp at hX
          rw [hX]; simp
        exact ⟨ret_bool (by simp [hm]), rfl⟩
      · have hxn' : (x == n) = false := beq_eq_false_iff_ne.2 hxn
        clear hxn
        go_wp2
        go_round
        case rel =>
          refine ⟨k + 1, by omega, by go_num, ?_⟩
          have h1 := hno.out
          show n ∉ xs.take (k + 1)
          rw [List.take_succ_eq_append_getElem hkl]
          have hX := HX.out
          rw [List.getD_eq_getElem?_getD, List.getElem?_eq_getElem hkl] at hX
          simp at hX
          simp only [List.mem_append, not_or]
          refine ⟨h1, ?_⟩
          rw [← hX]
          simp
          exact fun e => by simp [e] at hxn'
        case measure => simp [intOf]; omega
    · go_wp2
      go_ret
      have h1 := hno.out
      have hl := HL.out
      rw [List.take_of_length_le (by omega)] at h1
      exact ⟨ret_bool (by simp [h1]), rfl⟩

/-- The slice with address A and k elements reads as the graph G; all of it lies in blocks of K. -/
def GrIn (w : World) (K : Nat → Prop) (A : Option Addr) (k : Nat) (G : List (List Int)) : Prop :=
  G.length = k ∧ ∀ i, i < k → ∃ ad Ai ci, A = some ad ∧ K ad.block ∧ ad.block < w.heap.size ∧ w.cell? (ad.add i) = some (.slice Ai (G.getD i []).length ci) ∧ (G.getD i []).length ≤ maxLen ∧ Reads w K 1 Ai (G.getD i []).length (ints (G.getD i []))

theorem GrIn.keep {w w' : World} {K : Nat → Prop} {A : Option Addr} {k : Nat} {G : List (List Int)} (h : GrIn w K A k G) (hs : w.heap.size ≤ w'.heap.size) (hk : ∀ p : Addr, p.block < w.heap.size → K p.block → w'.cell? p = w.cell? p) : GrIn w' K A k G :=
  ⟨h.1, fun i hi => by
    obtain ⟨ad, Ai, ci, e, hb, hl, hc, hm, hr⟩ := h.2 i hi
    exact ⟨ad, Ai, ci, e, hb, Nat.lt_of_lt_of_le hl hs, (hk _ (by rw [block_of_add]; exact hl) (by rw [block_of_add]; exact hb)).trans hc, hm, hr.keep hs hk⟩⟩
theorem GrIn.chg {w w' : World} {K S : Nat → Prop} {A : Option Addr} {k : Nat} {G : List (List Int)} (h : GrIn w K A k G) (hc : Chg S w w') (hK : ∀ i, i < w.heap.size → K i → ¬ S i) : GrIn w' K A k G :=
  h.keep hc.size (fun _ hp hk => hc.cell hp (hK _ hp hk))

/-- A slice of ints is handed back: it reads as xs. -/
def SliceOf (K : Nat → Prop) (xs : List Int) (w : World) (e : Ending) (w' : World) : Prop :=
  ∃ A c, e = .returned (.slice A xs.length c) ∧ xs.length ≤ maxLen ∧ Reads w K 1 A xs.length (ints xs) ∧ w = w'

set_option maxHeartbeats 400000 in
theorem edges_any (K : Nat → Prop) (A : Option Addr) (k c : Nat) (G : List (List Int)) (n : Int) (w : World) (hg : GrIn w K A k G) :
    Calls Try.prog 18 #[.slice A k c, .int .i64 n] w (SliceOf K (adj G n) w) := by
  by_cases h0 : n < 0
  · have hd : decide (n < 0) = true := by simpa using h0
    have ha : adj G n = [] := by unfold adj; rw [if_pos h0]
    rw [ha]
    clear hg ha
    go_enter Try.func18, Try.ntmps18
    go_wp2
    go_ret
    exact ⟨none, 0, rfl, by simp, Reads.none_, rfl⟩
  · obtain ⟨m, rfl⟩ := Int.eq_ofNat_of_zero_le (show 0 ≤ n by omega)
    have ha : adj G (m : Int) = G.getD m [] := by unfold adj; rw [if_neg h0]; simp
    rw [ha]
    by_cases hlt : m < k
    · obtain ⟨ad, Ai, ci, rfl, _, _, hc, hm, hr⟩ := hg.2 m hlt
      generalize G.getD m [] = xs at *
      have HR := hide hr
      have HM := hide hm
      clear ha hg hr hm
      go_enter Try.func18, Try.ntmps18
      go_wp2
      go_ret
      exact ⟨Ai, ci, rfl, HM.out, HR.out, rfl⟩
    · have hx : G.getD m [] = [] := by
        have := hg.1
        rw [List.getD_eq_getElem?_getD, List.getElem?_eq_none (by omega)]; rfl
      rw [hx]
      clear hx ha hg
      go_enter Try.func18, Try.ntmps18
      go_wp2
      go_ret
      exact ⟨none, 0, rfl, by simp, Reads.none_, rfl⟩

def fitsB (k : Nat) (G : List (List Int)) : Bool := decide (k ≤ 2147483647 ∧ ∀ g ∈ G, g.length ≤ 2147483647)

set_option maxHeartbeats 400000 in
theorem fits6_any (K : Nat → Prop) (A : Option Addr) (k c : Nat) (G : List (List Int)) (w : World) (hg : GrIn w K A k G) (hk : k ≤ maxLen) :
    Calls Try.prog 8 #[.slice A k c] w fun e w' => e = .returned (.bool (fitsB k G)) ∧ w = w' := by
  unfold maxLen at hk
  by_cases h0 : k ≤ 2147483647
  · have hgl := hide hg.1
    go_enter Try.func8, Try.ntmps8
    go_wp2
    go_loop [4, 10] (fun _ i => ∃ j : Nat, j ≤ k ∧ i = .int .i64 j ∧ Hid (∀ g ∈ G.take j, g.length ≤ 2147483647)) (fun _ i => k - (intOf i).toNat)
    case atStart => exact ⟨0, Nat.zero_le _, rfl, by simp [Hid]⟩
    case round =>
      obtain ⟨j, hj, rfl, hall⟩ := hrel
      by_cases hlt : j < k
      · obtain ⟨ad, Ai, ci, rfl, _, _, hc, hm, _⟩ := hg.2 j hlt
        obtain ⟨g, hgj⟩ : ∃ g, g = G.getD j [] := ⟨_, rfl⟩
        rw [← hgj] at hc hm
        have HG := hide hgj
        clear hgj hg
        unfold maxLen at hm
        have hjl : j < G.length := by have := hgl.out; omega
        have hmem : Hid (g = G[j]) := by
          have := HG.out
          rw [List.getD_eq_getElem?_getD, List.getElem?_eq_getElem hjl] at this
          exact this
        by_cases hbig : g.length ≤ 2147483647
        · go_wp2
          go_round
          case rel =>
            refine ⟨j + 1, by omega, by go_num, ?_⟩
            show ∀ g ∈ G.take (j + 1), g.length ≤ 2147483647
            rw [List.take_succ_eq_append_getElem hjl]
            intro x hx
            rcases List.mem_append.1 hx with hx | hx
            · exact hall.out x hx
            · rw [List.mem_singleton.1 hx, ← hmem.out]; exact hbig
          case measure => simp [intOf]; omega
        · go_wp2
          go_ret
          refine ⟨ret_bool ?_, rfl⟩
          symm
          unfold fitsB
          rw [decide_eq_false_iff_not]
          rintro ⟨_, h⟩
          exact hbig (by rw [hmem.out]; exact h _ (List.getElem_mem _))
      · go_wp2
        go_ret
        refine ⟨ret_bool ?_, rfl⟩
        symm
        unfold fitsB
        rw [decide_eq_true_eq]
        refine ⟨h0, ?_⟩
        have := hall.out
        rw [List.take_of_length_le (by have := hgl.out; omega)] at this
        exact this
  · clear hg
    go_enter Try.func8, Try.ntmps8
    go_wp2
    go_ret
    exact ⟨ret_bool (by simp [fitsB, h0]), rfl⟩

theorem info44 : (Try.prog.info? 44).map (fun i => (i.zero, i.size, i.bytes)) = some (some .nilIface, 1, 16) := by kernel_rfl

theorem assert_int (x : Int) (w : World) : (Instr.typeAssert (.iface 3 (.int .i64 x)) 44 3 false).run Try.prog w = .ok (.int .i64 x) w := by kernel_rfl

/-- Node numbers as values of the interface type T. -/
def tval (x : Int) : Value := .iface 3 (.int .i64 x)
abbrev tvals (xs : List Int) : List Value := xs.map tval

set_option maxHeartbeats 400000 in
theorem gedges_any (gb M : Nat) (K : Nat → Prop) (A : Option Addr) (k c : Nat) (G : List (List Int)) (n : Int) (w : World)
    (hb : Blk w gb 43 #[.slice A k c, .map (some M)]) (hg : GrIn w K A k G) (hfit : ∀ g ∈ G, g.length ≤ 2147483647) :
    Calls Try.prog 48 #[.pointer (some ⟨gb, 0, none⟩), .iface 3 (.int .i64 n)] w fun e w' => ∃ v, e = .returned v ∧ w'.ownsRow w.heap.size 44 1 v (adj G n).length (tvals (adj G n)) ∧ Below w.heap.size w w' := by
  have hc0 := hb.cell 0
  have hc1 := hb.cell 1
  simp only [List.getElem?_toArray, List.getElem?_cons_zero, List.getElem?_cons_succ] at hc0 hc1
  have hta := assert_int n
  obtain ⟨i0, hi, hz0, hz1, hz2⟩ := info_parts info44
  by_cases h0 : n < 0
  · have ha : adj G n = [] := by unfold adj; rw [if_pos h0]
    rw [ha]
    clear hg ha hc1 hb
    go_enter Try.func48, Try.ntmps48
    go_wp2
    go_ret
    exact ⟨_, rfl, World.ownsRow_nil _ _ _ _, Below.refl _ _⟩
  · obtain ⟨m, rfl⟩ := Int.eq_ofNat_of_zero_le (show 0 ≤ n by omega)
    have ha : adj G (m : Int) = G.getD m [] := by unfold adj; rw [if_neg h0]; simp
    rw [ha]
    by_cases hlt : m < k
    · have hgl := hg.1
      obtain ⟨ad, Ai, ci, rfl, hKb, hbl, hc, hm, hr⟩ := hg.2 m hlt
      have hxm : (G.getD m []).length ≤ 2147483647 := by
        rw [List.getD_eq_getElem?_getD, List.getElem?_eq_getElem (by omega)]
        exact hfit _ (List.getElem_mem _)
      generalize G.getD m [] = xs at *
      have HR := hide hr
      have HB := hide hb
      clear ha hg hr hm hc1 hb hfit hgl hKb h0
      go_enter Try.func48, Try.ntmps48
      go_wp2
      go_loopw [5, 8, 30] (fun v _ i wr => ∃ j : Nat, j ≤ xs.length ∧ i = .int .i64 j ∧ wr.ownsRow w.heap.size 44 1 v j (tvals (xs.take j)) ∧ Below w.heap.size w wr) (fun _ _ i _ => xs.length - (intOf i).toNat)
      case atStart => exact ⟨0, Nat.zero_le _, rfl, World.ownsRow_nil _ _ _ _, Below.refl _ _⟩
      case round =>
        obtain ⟨j, hj, rfl, hown, hbel⟩ := hrel
        by_cases hlt : j < xs.length
        · obtain ⟨ad, u, rfl, _, hx, hc⟩ := (HR.out.below hbel).at_ hlt
          obtain ⟨rfl, hkl⟩ := ints_at hx
          obtain ⟨x, hxj⟩ : ∃ x, x = xs.getD j 0 := ⟨_, rfl⟩
          rw [← hxj] at hc
          have HX := hide hxj
          have hBS := hbel.size
          clear hx hxj
          go_wp2_with (at_builtin; go_must (refine wpList_append_own _ rfl _ _ 38 rfl w.heap.size 44 i0 .nilIface 1 16 Try.underlying38 hi hz0 hz1 hz2 rfl (by decide) _ _ _ rfl (hown.alloc _) ⟨wr.heap.size, 0, none⟩ 1 1 [tval x] rfl rfl (cell_one_new _ _ _) (by simp [tval, Value.oneCell']) (by unfold maxLen; omega) (by omega) (by simp; omega) ?_); intro v' w1 hown' hgrow _)
          have hb2 : Hid (Below w.heap.size w w1) := own_append_below hown hbel hgrow (Nat.le_refl _) hBS
          have HO := hide hown'
          clear hown' hgrow hown hbel
          go_wp2
          go_roundw
          case rel =>
            refine ⟨j + 1, by omega, by go_num, ?_, hb2.out⟩
            have h9 : tvals (xs.take (j + 1)) = tvals (xs.take j) ++ [tval x] := map_take_succ tval HX.out hkl
            rw [h9]
            exact HO.out
          case measure => simp [intOf]; omega
        · have hjl : j = xs.length := by omega
          have HO : Hid (wr.ownsRow w.heap.size 44 1 u5 xs.length (tvals xs)) := by
            have := hown
            rw [hjl, List.take_length] at this
            exact this
          have HBe := hide hbel
          clear hown hbel hjl
          go_wp2
          go_ret
          exact ⟨u5, rfl, HO.out, HBe.out⟩
    · have hx : G.getD m [] = [] := by
        have := hg.1
        rw [List.getD_eq_getElem?_getD, List.getElem?_eq_none (by omega)]; rfl
      rw [hx]
      clear hx ha hg hc1 hb hfit
      go_enter Try.func48, Try.ntmps48
      go_wp2
      go_ret
      exact ⟨_, rfl, World.ownsRow_nil _ _ _ _, Below.refl _ _⟩

theorem zero4 (w : World) : (zeroValue 4).run Try.prog w = .ok (.bool false) w := by kernel_rfl

/-- The nodes that a map marks. -/
def seenL (L : List (Int × Value)) (S : List Int) : Prop := ∀ x : Int, L.lookup x = if x ∈ S then some (.bool true) else none

/-- Map block M marks the nodes S. -/
def Marks (w : World) (M : Nat) (S : List Int) : Prop := ∃ L, IMap w M L ∧ seenL L S

set_option maxHeartbeats 400000 in
theorem gvisited_any (gb M : Nat) (es : Value) (S : List Int) (n : Int) (w : World)
    (hb : Blk w gb 43 #[es, .map (some M)]) (hs : Marks w M S) :
    Calls Try.prog 49 #[.pointer (some ⟨gb, 0, none⟩), .iface 3 (.int .i64 n)] w fun e w' => e = .returned (.bool (decide (n ∈ S))) ∧ Marks w' M (n :: S) ∧ Chg (· = M) w w' := by
  have hc1 := hb.cell 1
  simp only [List.getElem?_toArray, List.getElem?_cons_zero, List.getElem?_cons_succ] at hc1
  obtain ⟨L, him, hsl⟩ := hs
  have hta := assert_int n
  have hlk := fun W (h : IMap W M L) => h.look (P := Try.prog) (z := .bool false) Try.underlying41 Try.underlying3 (zero4 W) n false
  obtain ⟨o, hput, hio⟩ := him.put (P := Try.prog) Try.underlying41 Try.underlying3 n (.bool true)
  have hv : (L.lookup n).getD (.bool false) = .bool (decide (n ∈ S)) := by
    rw [hsl n]
    by_cases h : n ∈ S <;> simp [h]
  have hlk' : ∀ k, (Instr.lookup 41 (.map (some M)) (.int .i64 n) false).run Try.prog (w.drewN k) = .ok (.bool (decide (n ∈ S))) (w.drewN k) := by
    intro k
    rw [hlk (w.drewN k) him, ← hv]; rfl
  have hlk0 := hlk' 0
  have HS := hide hsl
  clear hlk hsl hb
  go_enter Try.func49, Try.ntmps49
  go_wp2
  go_quiet (fail)
  have hput1 := hput (nq + 1)
  have HI := hide him
  have HO := hide hio
  have HC : Hid (Chg (· = M) w (setBlock (w.drewN (nq + 1)) M o)) := ((Chg.refl (· = M) w).drewN (nq + 1)).setBlock (r := M) (fun _ => rfl) o
  have HB : Hid ((setBlock (w.drewN (nq + 1)) M o).heap[M]? = some o) := by
    have h1 : M < (w.drewN (nq + 1)).heap.size := him.lt
    show ((w.drewN (nq + 1)).heap.setIfInBounds M o)[M]? = some o
    rw [Array.getElem?_setIfInBounds_self_of_lt h1]
  clear hput him hio hlk0 hv
  generalize setBlock (w.drewN (nq + 1)) M o = W2 at *
  go_wp2
  go_region
  go_wp2
  go_ret
  refine ⟨rfl, ⟨_, HO.out _ HB.out, fun x => ?_⟩, HC.out⟩
  rw [lookup_iput, HS.out x]
  by_cases hx : x = n
  · simp [hx]
  · simp [hx]
end Go.Proofs.Ytndkjjfnlpkigaa
