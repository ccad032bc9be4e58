/- The walk of impl.Walk. -/
import Derived.Test.YtndkjjfnlpkigaaWd
import Derived.Test.YtndkjjfnlpkigaaWb
import Derived.Test.YtndkjjfnlpkigaaPath3
namespace Go.Proofs.Ytndkjjfnlpkigaa
open Go.RowKit

/-- What impl.Walk hands back. -/
def WalkOut (br : Bool) (G : List (List Int)) (a to : Int) (w : World) (e : Ending) (w' : World) : Prop :=
  ∃ (r : Bool) (v : Value) (ord : List Int), e = .returned (.tuple #[v, .bool r]) ∧ w'.ownsRow w.heap.size 3 1 v ord.length (ints ord) ∧ WalkEnd br G a to ord r ∧ Below w.heap.size w w'

/-- The fixed parts of impl.Walk's walk, s blocks being there. -/
def walkFix (s kk c : Nat) (A : Option Addr) (G : List (List Int)) (to : Int) : WFix :=
  { B := s + 1, L := s + 5, gb := s + 3, M := s + 2, O := s + 1, T := s, kk := kk, c := c, A := A, K := fun i => i < s, G := G, to := to, hK := fun i h => by omega, hT := by omega, hM := by omega }

set_option maxHeartbeats 1000000 in
theorem implwalk_any (br : Bool) (K : Nat → Prop) (A : Option Addr) (kk c : Nat) (G : List (List Int)) (a to : Int) (hfit : ∀ g ∈ G, g.length ≤ 2147483647) (hD : G.flatten.length < 1099511627776) (w : World) (hg : GrIn w K A kk G) :
    Calls Try.prog 12 #[.bool br, .slice A kk c, .int .i64 a, .int .i64 to] w (WalkOut br G a to w) := by
  have hmm := @run_makeMap Try.prog
  have HG := hide hg.old
  have HF := hide hfit
  have HD := hide hD
  clear hg hfit hD
  have hall : ∀ W : World, W = (((w.alloc (.cells #[.int .i64 to] 3)).alloc (.cells #[.slice none 0 0] 26)).alloc (.map #[] 0)).alloc (.cells #[.slice A kk c, .map (some (w.heap.size + 2))] 43) →
      W.heap.size = w.heap.size + 4 ∧ Below w.heap.size w W ∧ Blk W (w.heap.size + 3) 43 #[.slice A kk c, .map (some (w.heap.size + 2))] ∧ Marks W (w.heap.size + 2) [] ∧ OrderVar W (w.heap.size + 1) (w.heap.size + 1) [] ∧ GrIn W (fun i => i < w.heap.size) A kk G ∧ W.cell? ⟨w.heap.size, 0, none⟩ = some (.int .i64 to) := by
    rintro W rfl
    have hb : Below w.heap.size w ((((w.alloc (.cells #[.int .i64 to] 3)).alloc (.cells #[.slice none 0 0] 26)).alloc (.map #[] 0)).alloc (.cells #[.slice A kk c, .map (some (w.heap.size + 2))] 43)) := ((((Below.refl _ _).alloc (Nat.le_refl _) _).alloc (by simp) _).alloc (by simp; omega) _).alloc (by simp; omega) _
    refine ⟨by simp, hb, Blk.new_ _ _ _ (by simp), ?_, ?_, HG.out.keep hb.size (fun p hp _ => hb.cell hp), ?_⟩
    · refine ⟨[], ?_, fun x => by simp⟩
      have := IMap.new ((w.alloc (.cells #[.int .i64 to] 3)).alloc (.cells #[.slice none 0 0] 26))
      simp only [World.size_alloc] at this
      exact this.of_block (Below.heap_alloc _ _ _ (by simp))
    · exact ⟨.slice none 0 0, ((Blk.new_ _ _ _ (by simp)).alloc _).alloc _, World.ownsRow_nil _ _ _ _, by omega⟩
    · have h0 : Blk ((((w.alloc (.cells #[.int .i64 to] 3)).alloc (.cells #[.slice none 0 0] 26)).alloc (.map #[] 0)).alloc (.cells #[.slice A kk c, .map (some (w.heap.size + 2))] 43)) w.heap.size 3 #[.int .i64 to] := (((Blk.new w 3 #[.int .i64 to]).alloc _).alloc _).alloc _
      rw [h0.cell]; rfl
  go_enter Try.func12, Try.ntmps12
  cases br
  · go_wp2_with fail
    generalize hW : (((w.alloc (.cells #[.int .i64 to] 3)).alloc (.cells #[.slice none 0 0] 26)).alloc (.map #[] 0)).alloc (.cells #[.slice A kk c, .map (some (w.heap.size + 1 + 1))] 43) = W
    obtain ⟨hs, hbel, h1, h2, h3, h4, h5⟩ := hall W hW.symm
    have HBEL := hide hbel
    refine (lifo_any (walkFix w.heap.size kk c A G to) a HF.out HD.out W (by show w.heap.size + 5 = W.heap.size + 1; omega) h1 h2 h3 h4 h5 (by show w.heap.size + 1 ≤ W.heap.size; omega)).mono ?_
    clear hall h1 h2 h3 h4 h5 hW
    rintro e w1 ⟨r, ord, rfl, ⟨v, hbo, hown, hBO⟩, hend, hcg⟩
    have hvO : v.ownBlock ≠ some (w.heap.size + 1) := by
      intro e
      obtain ⟨_, cs, hcs⟩ := own_rowAt hown e
      exact (hcs.ne_ hbo (by decide)) rfl
    obtain ⟨RA, rc, rfl, _⟩ := own_reads hown
    have HVO := hide hvO
    have HEND := hide hend
    have HOWN := hide hown
    have HCG := hide hcg
    have HBO := hide hbo
    have hc0 : w1.cell? ⟨w.heap.size + 1, 0, none⟩ = some (.slice RA ord.length rc) := by
      have := hbo.cell 0
      exact this
    have hf0 : w1.frozen? ⟨w.heap.size + 1, 0, none⟩ = false := hbo.frozen 0
    have hlt1 := hbo.lt
    clear hend hown hcg hbel hbo hvO
    generalize hn : ord.length = n at *
    have HN := hide hn
    clear hn
    go_wp2
    refine bodyPost_ret (v := .tuple #[.slice RA n rc, .bool r]) ?_ rfl ?_
    · have hc2 : (w1.setCell ⟨w.heap.size + 1, 0, none⟩ (.slice RA n rc)).cell? ⟨w.heap.size + 1, 0, none⟩ = some (.slice RA n rc) := World.cell?_setCell_same _ _ _ hc0
      simp [results, Try.f12, hc2, go_sem]
    · refine ⟨r, .slice RA n rc, ord, rfl, ?_, HEND.out, ?_⟩
      · have h1 := HOWN.out
        rw [HN.out]
        exact ownsRow_setCell_other (own_base h1 (by show w.heap.size ≤ w.heap.size + 1; omega)) (fun e => HVO.out e) _
      · have h1 : Chg (fun i => w.heap.size + 1 ≤ i) W (w1.setCell ⟨w.heap.size + 1, 0, none⟩ (.slice RA n rc)) := Chg.setCell HCG.out (p := ⟨w.heap.size + 1, 0, none⟩) (fun _ => Nat.le_refl _) _
        exact HBEL.out.trans (h1.below (by omega) (fun i hi => by omega))
  · go_wp2_with fail
    generalize hW : (((w.alloc (.cells #[.int .i64 to] 3)).alloc (.cells #[.slice none 0 0] 26)).alloc (.map #[] 0)).alloc (.cells #[.slice A kk c, .map (some (w.heap.size + 1 + 1))] 43) = W
    obtain ⟨hs, hbel, h1, h2, h3, h4, h5⟩ := hall W hW.symm
    have HBEL := hide hbel
    refine (fifo_any (walkFix w.heap.size kk c A G to) a HF.out HD.out W (by show w.heap.size + 5 = W.heap.size + 1; omega) h1 h2 h3 h4 h5 (by show w.heap.size + 1 ≤ W.heap.size; omega)).mono ?_
    clear hall h1 h2 h3 h4 h5 hW
    rintro e w1 ⟨r, ord, rfl, ⟨v, hbo, hown, hBO⟩, hend, hcg⟩
    have hvO : v.ownBlock ≠ some (w.heap.size + 1) := by
      intro e
      obtain ⟨_, cs, hcs⟩ := own_rowAt hown e
      exact (hcs.ne_ hbo (by decide)) rfl
    obtain ⟨RA, rc, rfl, _⟩ := own_reads hown
    have HVO := hide hvO
    have HEND := hide hend
    have HOWN := hide hown
    have HCG := hide hcg
    have HBO := hide hbo
    have hc0 : w1.cell? ⟨w.heap.size + 1, 0, none⟩ = some (.slice RA ord.length rc) := by
      have := hbo.cell 0
      exact this
    have hf0 : w1.frozen? ⟨w.heap.size + 1, 0, none⟩ = false := hbo.frozen 0
    have hlt1 := hbo.lt
    clear hend hown hcg hbel hbo hvO
    generalize hn : ord.length = n at *
    have HN := hide hn
    clear hn
    go_wp2
    refine bodyPost_ret (v := .tuple #[.slice RA n rc, .bool r]) ?_ rfl ?_
    · have hc2 : (w1.setCell ⟨w.heap.size + 1, 0, none⟩ (.slice RA n rc)).cell? ⟨w.heap.size + 1, 0, none⟩ = some (.slice RA n rc) := World.cell?_setCell_same _ _ _ hc0
      simp [results, Try.f12, hc2, go_sem]
    · refine ⟨r, .slice RA n rc, ord, rfl, ?_, HEND.out, ?_⟩
      · have h1 := HOWN.out
        rw [HN.out]
        exact ownsRow_setCell_other (own_base h1 (by show w.heap.size ≤ w.heap.size + 1; omega)) (fun e => HVO.out e) _
      · have h1 : Chg (fun i => w.heap.size + 1 ≤ i) W (w1.setCell ⟨w.heap.size + 1, 0, none⟩ (.slice RA n rc)) := Chg.setCell HCG.out (p := ⟨w.heap.size + 1, 0, none⟩) (fun _ => Nat.le_refl _) _
        exact HBEL.out.trans (h1.below (by omega) (fun i hi => by omega))
end Go.Proofs.Ytndkjjfnlpkigaa
