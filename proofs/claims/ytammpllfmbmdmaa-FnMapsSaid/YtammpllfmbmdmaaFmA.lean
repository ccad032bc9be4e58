/- What the first loop of the law FnMaps holds. No condition. -/
import Derived.Test.YtammpllfmbmdmaaSp6
import Derived.Test.YtammpllfmbmdmaaSp7
import Derived.Test.YtammpllfmbmdmaaMok2
namespace Go.Proofs.Ytammpllfmbmdmaa
open Go.RowKit

/-- The blocks that neither the variable nor the answers take. -/
def KM (g : Nat) (v : Value) (i : Nat) : Prop := i ≠ g ∧ v.ownBlock ≠ some i

/-- The two lists of the law behind j steps. -/
structure MV (md : Int) (S : List StepD) (wr : World) (g j : Nat) (v : Value) (A0 A1 : Option Addr) (c0 c1 : Nat) (x : Two) : Prop where
  m : Blk wr g 49 #[.slice A0 x.1.length c0, .slice A1 x.2.length c1]
  two : TwoIn wr (KM g v) A0 A1 c0 c1 x
  eq : x = stF (stpF md) ([], []) (S.take j)

theorem MV.ok {md : Int} {S : List StepD} {wr : World} {g j : Nat} {v : Value} {A0 A1 : Option Addr} {c0 c1 : Nat} {x : Two} (h : MV md S wr g j v A0 A1 c0 c1 x) : OkL (S.map (·.key)) x.1 ∧ OkL (S.map (·.key)) x.2 := by
  rw [h.eq, stF_end]
  exact endM_ok _ _ OkL.nil OkL.nil (fun s hs => List.mem_map.2 ⟨s, List.mem_of_mem_take hs, rfl⟩)

theorem MV.len {md : Int} {S : List StepD} {wr : World} {g j : Nat} {v : Value} {A0 A1 : Option Addr} {c0 c1 : Nat} {x : Two} (h : MV md S wr g j v A0 A1 c0 c1 x) : x.1.length ≤ S.length ∧ x.2.length ≤ S.length := by
  have h0 := h.ok.1.len
  have h1 := h.ok.2.len
  rw [List.length_map] at h0 h1
  exact ⟨h0, h1⟩

section
variable {σ : Type} {f : σ → StepD → σ × Option AnsD} {G : σ → StepD → Prop} {x0 : σ} {S : List StepD} {w wr w3 w6 : World} {j : Nat} {v v' : Value} {P : List (AnsD × Value)}
theorem LawI.below (h : LawI f G x0 S w wr j v P) (hb : Below wr.heap.size wr w3) : LawI f G x0 S w w3 j v P := { toLawW := h.toLawW.below hb, ok := h.ok }
/-- A store into another block. -/
theorem LawI.chgT (h : LawI f G x0 S w wr j v P) {T : Nat → Prop} (hc : Chg T wr w3) (h1 : ∀ i, v.ownBlock = some i → ¬ T i) (h2 : ∀ i cs, Blk wr i 3 cs → ¬ T i) (h3 : ∀ i, T i → w.heap.size ≤ i) : LawI f G x0 S w w3 j v P :=
  { want := ⟨own_chg h.want.own hc h1, fun p hp => by
      obtain ⟨LA, lc, e, hs⟩ := h.want.lists p hp
      refine ⟨LA, lc, e, (hs.chg hc (fun i _ hk ht => ?_)).more (fun i _ h => OldRow.chg hc h2 i h)⟩
      rcases hk with hk | ⟨cs, hk⟩
      · have := h3 i ht; omega
      · exact h2 i cs hk ht⟩
    len := h.len, eq := h.eq, good := h.good, bel := h.bel.trans (hc.below h.bel.size h3), ok := h.ok }
end

/-- What the call of spec.Maps leaves, with its results stored. -/
structure Reg (wr : World) (g : Nat) (v : Value) (A0 A1 : Option Addr) (c0 c1 : Nat) (y : Two) (RA : Option Addr) (rc : Nat) (a : AnsD) (b9 b10 : Nat) (Z : World) : Prop where
  q9 : Blk Z b9 49 #[.slice A0 y.1.length c0, .slice A1 y.2.length c1]
  q10 : Blk Z b10 31 (a.cells (.slice RA a.list.length rc))
  bel : Below wr.heap.size wr Z
  l9 : wr.heap.size ≤ b9
  l10 : wr.heap.size ≤ b10
  two : TwoIn Z (KM g v) A0 A1 c0 c1 y
  row : SliceIs Z (Row3 Z) RA a.list.length rc a.list

theorem Blk.eq_ {w : World} {g t : Nat} {cs cs' : Array Value} (h : Blk w g t cs) (e : cs = cs') : Blk w g t cs' := e ▸ h

theorem reg_of {wr w3 Z : World} {g n b9 b10 : Nat} {v : Value} {A0 A1 RA : Option Addr} {c0 c1 rc : Nat} {y : Two} {a : AnsD}
    (h9 : Blk Z b9 49 #[.slice A0 y.1.length c0, .slice A1 y.2.length c1]) (h10 : Blk Z b10 31 (a.cells (.slice RA a.list.length rc)))
    (ch : Chg (fun i => i = b9 ∨ i = b10) w3 Z) (hb : Below wr.heap.size wr w3) (ht : TwoIn w3 (fun i => Lo (KM g v) wr.heap.size i ∨ n ≤ i) A0 A1 c0 c1 y) (hs : SliceIs w3 (Row3 w3) RA a.list.length rc a.list)
    (hn : wr.heap.size ≤ n) (l9 : wr.heap.size ≤ b9) (l10 : wr.heap.size ≤ b10) (hg : g < wr.heap.size) (hv : ∀ i, v.ownBlock = some i → i < wr.heap.size)
    (c9 : w3.heap.size ≤ b9 ∨ (b9 < n ∧ ∃ cs, Blk w3 b9 49 cs)) (c10 : w3.heap.size ≤ b10 ∨ (b10 < n ∧ ∃ cs, Blk w3 b10 31 cs)) :
    Reg wr g v A0 A1 c0 c1 y RA rc a b9 b10 Z := by
  have hk : ∀ i, i < w3.heap.size → (Lo (KM g v) wr.heap.size i ∨ n ≤ i) → ¬ (i = b9 ∨ i = b10) := by
    intro i hi h e
    have hb9 : i = b9 → False := fun e => by
      subst e
      rcases c9 with c9 | ⟨c9, _⟩
      · omega
      · rcases h with h | h
        · have := h.2; omega
        · omega
    have hb10 : i = b10 → False := fun e => by
      subst e
      rcases c10 with c10 | ⟨c10, _⟩
      · omega
      · rcases h with h | h
        · have := h.2; omega
        · omega
    exact e.elim hb9 hb10
  have hm : ∀ i, i < Z.heap.size → (Lo (KM g v) wr.heap.size i ∨ n ≤ i) → KM g v i := by
    intro i _ h
    rcases h with h | h
    · exact h.1
    · exact ⟨by omega, fun e => by have := hv i e; omega⟩
  have ht2 := ht.keep ch.size (fun p hp hK => ch.cell hp (hk _ hp hK))
  refine ⟨h9, h10, hb.trans (ch.below hb.size (fun i hi => by rcases hi with rfl | rfl <;> assumption)), l9, l10, ⟨ht2.p0.more hm, ht2.p1.more hm⟩, hs.row ch (fun i cs hbk e => ?_)⟩
  rcases e with rfl | rfl
  · rcases c9 with c9 | ⟨_, cs', c9⟩
    · have := hbk.lt; omega
    · exact hbk.ne_ c9 (by decide) rfl
  · rcases c10 with c10 | ⟨_, cs', c10⟩
    · have := hbk.lt; omega
    · exact hbk.ne_ c10 (by decide) rfl

/-- The loop goes on. -/
theorem mv_next {md : Int} {S : List StepD} {wr Z F : World} {g j : Nat} {v v' : Value} {A0 A1 B0 B1 : Option Addr} {c0 c1 d0 d1 : Nat} {x y : Two} {s : StepD} {a : AnsD} {b9 b10 rc : Nat} {RA : Option Addr}
    (h : MV md S wr g j v A0 A1 c0 c1 x) (hr : Reg wr g v B0 B1 d0 d1 y RA rc a b9 b10 Z) (hsp : specM x s = (y, a, true)) (ht : S.take (j + 1) = S.take j ++ [s])
    (hm : Blk F g 49 #[.slice B0 y.1.length d0, .slice B1 y.2.length d1]) (hc : Chg (fun i => i = g ∨ v.ownBlock = some i) Z F) (hv : v'.ownBlock = v.ownBlock ∨ ∀ i, v'.ownBlock = some i → Z.heap.size ≤ i) :
    MV md S F g (j + 1) v' B0 B1 d0 d1 y ∧ ((stpF md) (stF (stpF md) ([], []) (S.take j)) s).2 = some a := by
  have he := specM_eq (md := md) h.ok.1.1 h.ok.2.1 (s := s) (by rw [hsp])
  rw [hsp] at he
  have hk : ∀ i, KM g v i → ¬ (i = g ∨ v.ownBlock = some i) := fun i hi e => e.elim hi.1 hi.2
  have hlo := hr.two.lo
  have h2 := hlo.keep hc.size (fun p hp hK => hc.cell hp (hk _ hK.1))
  have hmore : ∀ i, i < F.heap.size → Lo (KM g v) Z.heap.size i → KM g v' i := by
    intro i _ hi
    refine ⟨hi.1.1, fun e => ?_⟩
    rcases hv with hv | hv
    · exact hi.1.2 (hv ▸ e)
    · have := hv i e
      have := hi.2
      omega
  refine ⟨⟨hm, ⟨h2.p0.more hmore, h2.p1.more hmore⟩, ?_⟩, ?_⟩
  · rw [ht, stF_snoc, ← h.eq]
    exact he.1
  · rw [← h.eq]
    show some (fixA s (stepM md x s).2) = some a
    rw [← he.2]
end Go.Proofs.Ytammpllfmbmdmaa
