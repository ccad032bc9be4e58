/- Answers in memory; the walks of ints, same, alike: alike says true of two rows with the same answers. -/
import Derived.Test.YtammpllfmbmdmaaStp
import Derived.StillTailTactics
namespace Go.Proofs.Ytammpllfmbmdmaa
open Go.RowKit

/-- An answer. -/
structure AnsD where
  n : Int
  ok : Bool
  list : List Int
  panicked : Bool

def AnsD.cells (a : AnsD) (v : Value) : Array Value := #[.int .i64 a.n, .bool a.ok, v, .bool a.panicked]

/-- From e on lie the cells of an answer. -/
structure AnsAt (w : World) (e : Addr) (a : AnsD) (A : Option Addr) (c : Nat) : Prop where
  here : e.block < w.heap.size
  sl : SliceIs w (fun i => i < w.heap.size) A a.list.length c a.list
  c0 : w.cell? e = some (.int .i64 a.n)
  c1 : w.cell? ⟨e.block, e.off + 1, none⟩ = some (.bool a.ok)
  c2 : w.cell? ⟨e.block, e.off + 2, none⟩ = some (.slice A a.list.length c)
  c3 : w.cell? ⟨e.block, e.off + 3, none⟩ = some (.bool a.panicked)

theorem AnsAt.below {w w' : World} {e : Addr} {a : AnsD} {A : Option Addr} {c : Nat} (h : AnsAt w e a A c) (hb : Below w.heap.size w w') : AnsAt w' e a A c :=
  ⟨Nat.lt_of_lt_of_le h.here hb.size, (h.sl.below hb).more (fun _ _ hi => Nat.lt_of_lt_of_le hi hb.size), (hb.cell (p := e) h.here).trans h.c0, (hb.cell (p := ⟨e.block, e.off + 1, none⟩) h.here).trans h.c1, (hb.cell (p := ⟨e.block, e.off + 2, none⟩) h.here).trans h.c2, (hb.cell (p := ⟨e.block, e.off + 3, none⟩) h.here).trans h.c3⟩

/-- The slice with address A and k elements holds the answers L. -/
def AnsIn (w : World) (A : Option Addr) (k : Nat) (L : List AnsD) : Prop :=
  L.length = k ∧ ∀ i, i < k → ∃ ad a LA lc, A = some ad ∧ L[i]? = some a ∧ AnsAt w (ad.add (i * 4)) a LA lc

theorem AnsIn.below {w w' : World} {A : Option Addr} {k : Nat} {L : List AnsD} (h : AnsIn w A k L) (hb : Below w.heap.size w w') : AnsIn w' A k L :=
  ⟨h.1, fun i hi => by
    obtain ⟨ad, a, LA, lc, e, hx, ha⟩ := h.2 i hi
    exact ⟨ad, a, LA, lc, e, hx, ha.below hb⟩⟩

set_option maxHeartbeats 400000 in
theorem ints_eq (A1 A2 : Option Addr) (n c1 c2 : Nat) (xs : List Int) (w : World) (K1 K2 : Nat → Prop) (h1 : Reads w K1 1 A1 n (ints xs)) (h2 : Reads w K2 1 A2 n (ints xs)) (hn : n ≤ maxLen) :
    Calls Try.prog 82 #[.slice A1 n c1, .slice A2 n c2] w fun e w' => e = .returned (.bool true) ∧ ∃ q, w' = w.drewN q := by
  have H1 := hide h1
  have H2 := hide h2
  unfold maxLen at hn
  clear h1 h2
  go_enter Try.func82, Try.ntmps82
  go_wp2
  go_loopw [13] (fun i wr => ∃ j q : Nat, j ≤ n ∧ i = .int .i64 j ∧ wr = w.drewN q) (fun i _ => n - (intOf i).toNat)
  case atStart => exact ⟨0, 0, Nat.zero_le _, rfl, rfl⟩
  case round =>
    obtain ⟨j, q, hj, rfl, rfl⟩ := hrel
    by_cases hlt : j < n
    · obtain ⟨ad, u, rfl, _, hx, hcx⟩ := H1.out.at_ hlt
      obtain ⟨ad2, u2, rfl, _, hy, hcy⟩ := H2.out.at_ hlt
      rw [hx] at hy
      injection hy with hy
      subst hy
      obtain ⟨rfl, hjl⟩ := ints_at hx
      clear hx
      go_wp2
      go_quiet (fail)
      go_wp2
      go_roundw
      case rel => exact ⟨j + 1, _, by omega, by go_num, rfl⟩
      case measure => simp [intOf]; omega
    · go_wp2
      go_ret
      exact ⟨rfl, _, rfl⟩

set_option maxHeartbeats 400000 in
theorem same_eq (a : AnsD) (A1 A2 : Option Addr) (c1 c2 : Nat) (w : World) (h1 : SliceIs w (fun i => i < w.heap.size) A1 a.list.length c1 a.list) (h2 : SliceIs w (fun i => i < w.heap.size) A2 a.list.length c2 a.list) :
    Calls Try.prog 23 #[.agg (a.cells (.slice A1 a.list.length c1)), .agg (a.cells (.slice A2 a.list.length c2))] w fun e w' => e = .returned (.bool true) ∧ Below w.heap.size w w' := by
  have HB : Hid (Below w.heap.size w ((w.alloc (.cells (a.cells (.slice A1 a.list.length c1)) 46)).alloc (.cells (a.cells (.slice A2 a.list.length c2)) 31))) := ((Below.refl _ _).alloc (Nat.le_refl _) _).alloc (by simp) _
  have r1 := h1.reads.below HB.out
  have r2 := h2.reads.below HB.out
  have hm := Nat.le_trans h1.cap h1.max
  have R1 := hide r1
  have R2 := hide r2
  clear h1 h2 r1 r2
  unfold AnsD.cells at HB R1 R2 ⊢
  go_enter Try.func23, Try.ntmps23
  go_wp2_with fail
  refine (ints_eq _ _ _ _ _ a.list _ _ _ R1.out R2.out hm).mono ?_
  rintro e w1 ⟨rfl, q, rfl⟩
  go_wp2
  go_ret
  exact ⟨rfl, ((Chg.ofBelow HB.out (fun _ => False)).drewN _).toBelow⟩

set_option maxHeartbeats 1000000 in
set_option maxRecDepth 100000 in
theorem alike_eq (A1 A2 : Option Addr) (k c1 c2 : Nat) (L : List AnsD) (w : World) (h1 : AnsIn w A1 k L) (h2 : AnsIn w A2 k L) (hk : k ≤ maxLen) :
    Calls Try.prog 14 #[.slice A1 k c1, .slice A2 k c2] w fun e w' => e = .returned (.bool true) ∧ Below w.heap.size w w' := by
  have H1 := hide h1
  have H2 := hide h2
  unfold maxLen at hk
  clear h1 h2
  go_enter Try.func14, Try.ntmps14
  go_wp2
  go_loopw [13] (fun i wr => ∃ j : Nat, j ≤ k ∧ i = .int .i64 j ∧ Below w.heap.size w wr) (fun i _ => k - (intOf i).toNat)
  case atStart => exact ⟨0, Nat.zero_le _, rfl, Below.refl _ _⟩
  case round =>
    obtain ⟨j, hj, rfl, hb⟩ := hrel
    have HB := hide hb
    have hbs := hb.size
    have g1 := hide (H1.out.below hb)
    have g2 := hide (H2.out.below hb)
    clear hb
    by_cases hlt : j < k
    · obtain ⟨ad, a, LA, lc, rfl, hx, ha⟩ := g1.out.2 j hlt
      obtain ⟨ad2, a2, LA2, lc2, rfl, hx2, ha2⟩ := g2.out.2 j hlt
      rw [hx] at hx2
      injection hx2 with hx2
      subst hx2
      have S1 := hide ha.sl
      have S2 := hide ha2.sl
      obtain ⟨p0, p1, p2, p3⟩ := And.intro ha.c0 (And.intro ha.c1 (And.intro ha.c2 ha.c3))
      obtain ⟨q0, q1, q2, q3⟩ := And.intro ha2.c0 (And.intro ha2.c1 (And.intro ha2.c2 ha2.c3))
      clear hx ha ha2
      go_wp2
      go_still_tail 8, (by kernel_rfl)
      change wpList _ _ _ _ _ wr.drew
      go_wp2_with fail
      have hcall := same_eq a LA LA2 lc lc2 wr.drew (S1.out.keep (Nat.le_refl _) (fun _ _ _ => rfl)) (S2.out.keep (Nat.le_refl _) (fun _ _ _ => rfl))
      unfold AnsD.cells at hcall
      refine hcall.mono ?_
      clear hcall
      rintro e w1 ⟨rfl, hb1⟩
      have HB1 : Hid (Below w.heap.size w w1) := ((Chg.ofBelow HB.out (fun _ => False)).drew.toBelow).trans (hb1.mono hbs)
      clear hb1
      go_wp2
      go_roundw
      case rel => exact ⟨j + 1, by omega, by go_num, HB1.out⟩
      case measure => simp [intOf]; omega
    · go_wp2
      go_ret
      exact ⟨rfl, HB.out⟩
end Go.Proofs.Ytammpllfmbmdmaa
