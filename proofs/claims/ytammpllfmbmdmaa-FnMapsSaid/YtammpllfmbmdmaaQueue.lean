/- The walks of the LIFO and FIFO queues: what each method does to a chain of nodes. No condition but that sizes are no greater than memory. -/
import Derived.Test.YtammpllfmbmdmaaRows
import Derived.Test.YtammpllfmbmdmaaCommon
namespace Go.Proofs.Ytammpllfmbmdmaa
open Go.RowKit

/-- From pointer p on lies a chain of nodes, each block with its value. -/
def Chain (w : World) : Option Addr → List (Nat × Value) → Prop
  | p, [] => p = none
  | p, (b, v) :: r => p = some ⟨b, 0, none⟩ ∧ ∃ q, Blk w b 115 #[v, .pointer q] ∧ Chain w q r

theorem Chain.keep {w w' : World} : ∀ {p : Option Addr} {xs : List (Nat × Value)}, Chain w p xs → (∀ b cs, b ∈ xs.map (·.1) → Blk w b 115 cs → Blk w' b 115 cs) → Chain w' p xs
  | _, [], h, _ => h
  | _, (b, v) :: r, h, hk => by
    obtain ⟨hp, q, hb, hr⟩ := h
    exact ⟨hp, q, hk b _ (List.mem_cons_self ..) hb, Chain.keep hr (fun b' cs hb' => hk b' cs (List.mem_cons_of_mem _ hb'))⟩

theorem Chain.chg {w w' : World} {S : Nat → Prop} {p : Option Addr} {xs : List (Nat × Value)} (h : Chain w p xs) (hc : Chg S w w') (hS : ∀ b cs, Blk w b 115 cs → ¬ S b) : Chain w' p xs :=
  h.keep (fun b cs _ hb => hb.chg hc (hS b cs hb))

theorem Chain.blk {w : World} : ∀ {p : Option Addr} {xs : List (Nat × Value)}, Chain w p xs → ∀ b ∈ xs.map (·.1), ∃ cs, Blk w b 115 cs
  | _, [], _, b, hb => by cases hb
  | _, (b', v) :: r, h, b, hb => by
    obtain ⟨_, q, hbl, hr⟩ := h
    rcases List.mem_cons.1 hb with rfl | hb
    · exact ⟨_, hbl⟩
    · exact Chain.blk hr b hb

/-- A LIFO queue with the values xs, the top one first, all of it in blocks from B on. -/
def Lifo (w : World) (B : Nat → Prop) (L : Nat) (xs : List Value) : Prop :=
  ∃ p ys, Blk w L 111 #[.pointer p, .int .i64 xs.length] ∧ Chain w p ys ∧ ys.map (·.2) = xs ∧ B L ∧ ∀ b ∈ ys.map (·.1), B b

theorem Lifo.chg {w w' : World} {B : Nat → Prop} {L : Nat} {xs : List Value} {S : Nat → Prop} (h : Lifo w B L xs) (hc : Chg S w w') (hS : ∀ b cs, Blk w b 115 cs → ¬ S b) (hL : ¬ S L) : Lifo w' B L xs := by
  obtain ⟨p, ys, hb, hch, hx, hr⟩ := h
  exact ⟨p, ys, hb.chg hc hL, hch.chg hc hS, hx, hr⟩
theorem Lifo.lt {w : World} {B : Nat → Prop} {L : Nat} {xs : List Value} (h : Lifo w B L xs) : L < w.heap.size := by
  obtain ⟨p, ys, hb, _⟩ := h
  exact hb.lt

theorem blk_two {w : World} {b t : Nat} {x y : Value} (h : Blk w b t #[x, y]) : w.cell? ⟨b, 0, none⟩ = some x ∧ w.cell? ⟨b, 1, none⟩ = some y ∧ w.frozen? ⟨b, 0, none⟩ = false ∧ w.frozen? ⟨b, 1, none⟩ = false :=
  ⟨by rw [h.cell]; rfl, by rw [h.cell]; rfl, h.frozen 0, h.frozen 1⟩

theorem lifo_size (B : Nat → Prop) (L : Nat) (xs : List Value) (w : World) (h : Lifo w B L xs) :
    Calls Try.prog 32 #[.pointer (some ⟨L, 0, none⟩)] w fun e w' => e = .returned (.int .i64 xs.length) ∧ w = w' := by
  obtain ⟨p, ys, hb, _⟩ := h
  obtain ⟨c0, c1, _, _⟩ := blk_two hb
  clear hb
  go_enter Try.func32, Try.ntmps32
  go_wp2
  go_ret
  exact ⟨rfl, rfl⟩

/-- Behind a Pop. -/
def Popped (Q : World → List Value → Prop) (L : Nat) (xs : List Value) (w : World) (e : Ending) (w' : World) : Prop :=
  e = .returned (.tuple #[xs.headD .nilIface, .bool (!xs.isEmpty)]) ∧ Q w' xs.tail ∧ Chg (· = L) w w'

set_option maxHeartbeats 400000 in
theorem lifo_pop (B : Nat → Prop) (L : Nat) (xs : List Value) (w : World) (h : Lifo w B L xs) (hl : xs.length ≤ 9223372036854775807) :
    Calls Try.prog 30 #[.pointer (some ⟨L, 0, none⟩)] w (Popped (fun w' => Lifo w' B L) L xs w) := by
  obtain ⟨p, ys, hb, hch, rfl, hBL, hBs⟩ := h
  obtain ⟨c0, c1, f0, f1⟩ := blk_two hb
  have HB := hide hb
  clear hb
  cases ys with
  | nil =>
    have hp : p = none := hch
    subst hp
    go_enter Try.func30, Try.ntmps30
    go_wp2
    go_ret2
    exact ⟨rfl, ⟨none, [], HB.out, rfl, rfl, hBL, hBs⟩, Chg.refl _ _⟩
  | cons y ys =>
    obtain ⟨b, v⟩ := y
    obtain ⟨rfl, q, hbl, hrest⟩ := hch
    obtain ⟨d0, d1, _, _⟩ := blk_two hbl
    have hne : b ≠ L := hbl.ne_ HB.out (by decide)
    have hlt := hbl.lt
    have HBL := hide hbl
    have HR := hide hrest
    have HBs := hide hBs
    simp only [List.map_cons, List.length_cons] at hl c1 HB
    generalize hn : (ys.map (·.2)).length = n at *
    have HN := hide hn
    clear hbl hrest hBs hn
    go_enter Try.func30, Try.ntmps30
    go_wp2
    go_ret2
    refine ⟨rfl, ⟨q, ys, ?_, ?_, rfl, hBL, fun x hx => HBs.out x (List.mem_cons_of_mem _ hx)⟩, ?_⟩
    · have := (HB.out.set_ 0 (.pointer q)).set_ 1 (.int .i64 n)
      rw [← HN.out] at this ⊢
      exact this
    · refine HR.out.keep (fun b' cs hb' hbb => ?_)
      have hn2 : b' ≠ L := hbb.ne_ HB.out (by decide)
      exact (hbb.far (p := ⟨L, 0, none⟩) hn2 _).far (p := ⟨L, 1, none⟩) hn2 _
    · exact ((Chg.refl (· = L) w).setCell (p := ⟨L, 0, none⟩) (fun _ => rfl) _).setCell (p := ⟨L, 1, none⟩) (fun _ => rfl) _

set_option maxHeartbeats 400000 in
theorem lifo_push (B : Nat → Prop) (L : Nat) (xs : List Value) (u : TypeId) (x : Value) (w : World) (h : Lifo w B L xs) (hl : xs.length < 9223372036854775807) :
    Calls Try.prog 28 #[.pointer (some ⟨L, 0, none⟩), .iface u x] w fun e w' => e = .returned (.tuple #[]) ∧ Lifo w' (fun k => B k ∨ k = w.heap.size) L (.iface u x :: xs) ∧ Chg (· = L) w w' := by
  obtain ⟨p, ys, hb, hch, rfl, hBL, hBs⟩ := h
  obtain ⟨c0, c1, f0, f1⟩ := blk_two hb
  have hLw := hb.lt
  have HB := hide hb
  have HCH := hide hch
  have HBs := hide hBs
  generalize hn : (ys.map (·.2)).length = n at *
  have HN := hide hn
  clear hb hch hBs hn
  go_enter Try.func28, Try.ntmps28
  go_wp2
  go_end0
  refine ⟨rfl, ⟨some ⟨w.heap.size, 0, none⟩, (w.heap.size, .iface u x) :: ys, ?_, ⟨rfl, p, Blk.new_ _ _ _ (by simp), ?_⟩, rfl, Or.inl hBL, ?_⟩, ?_⟩
  · rw [show ((.iface u x :: ys.map (·.2) : List Value).length : Int) = (n : Int) + 1 by rw [List.length_cons, HN.out]; omega]
    exact ((HB.out.set_ 0 (.pointer (some ⟨w.heap.size, 0, none⟩))).set_ 1 (.int .i64 (n + 1))).alloc _
  · refine HCH.out.keep (fun b' cs hb' hbb => ?_)
    have hn2 : b' ≠ L := hbb.ne_ HB.out (by decide)
    exact ((hbb.far (p := ⟨L, 0, none⟩) hn2 _).far (p := ⟨L, 1, none⟩) hn2 _).alloc _
  · intro b hb
    rcases List.mem_cons.1 hb with rfl | hb
    · exact Or.inr rfl
    · exact Or.inl (HBs.out b hb)
  · exact (((Chg.refl (· = L) w).setCell (p := ⟨L, 0, none⟩) (fun _ => rfl) _).setCell (p := ⟨L, 1, none⟩) (fun _ => rfl) _).alloc _

/-- A FIFO queue with the values xs, the front one first. -/
def Fifo (w : World) (B : Nat → Prop) (L : Nat) (xs : List Value) : Prop :=
  ∃ p bk ys, Blk w L 113 #[.pointer p, .pointer bk, .int .i64 xs.length] ∧ Chain w p ys ∧ ys.map (·.2) = xs ∧ B L ∧ (∀ b ∈ ys.map (·.1), B b) ∧ (ys.map (·.1)).Nodup ∧ (∀ y, ys.getLast? = some y → bk = some ⟨y.1, 0, none⟩)

theorem Fifo.chg {w w' : World} {B : Nat → Prop} {L : Nat} {xs : List Value} {S : Nat → Prop} (h : Fifo w B L xs) (hc : Chg S w w') (hS : ∀ b cs, Blk w b 115 cs → ¬ S b) (hL : ¬ S L) : Fifo w' B L xs := by
  obtain ⟨p, bk, ys, hb, hch, hx, hr⟩ := h
  exact ⟨p, bk, ys, hb.chg hc hL, hch.chg hc hS, hx, hr⟩
theorem Fifo.lt {w : World} {B : Nat → Prop} {L : Nat} {xs : List Value} (h : Fifo w B L xs) : L < w.heap.size := by
  obtain ⟨p, bk, ys, hb, _⟩ := h
  exact hb.lt

theorem blk_three {w : World} {b t : Nat} {x y z : Value} (h : Blk w b t #[x, y, z]) : w.cell? ⟨b, 0, none⟩ = some x ∧ w.cell? ⟨b, 1, none⟩ = some y ∧ w.cell? ⟨b, 2, none⟩ = some z ∧ w.frozen? ⟨b, 0, none⟩ = false ∧ w.frozen? ⟨b, 1, none⟩ = false ∧ w.frozen? ⟨b, 2, none⟩ = false :=
  ⟨by rw [h.cell]; rfl, by rw [h.cell]; rfl, by rw [h.cell]; rfl, h.frozen 0, h.frozen 1, h.frozen 2⟩

theorem fifo_size (B : Nat → Prop) (L : Nat) (xs : List Value) (w : World) (h : Fifo w B L xs) :
    Calls Try.prog 36 #[.pointer (some ⟨L, 0, none⟩)] w fun e w' => e = .returned (.int .i64 xs.length) ∧ w = w' := by
  obtain ⟨p, bk, ys, hb, _⟩ := h
  obtain ⟨c0, c1, c2, _, _, _⟩ := blk_three hb
  clear hb
  go_enter Try.func36, Try.ntmps36
  go_wp2
  go_ret
  exact ⟨rfl, rfl⟩

set_option maxHeartbeats 400000 in
theorem fifo_pop (B : Nat → Prop) (L : Nat) (xs : List Value) (w : World) (h : Fifo w B L xs) (hl : xs.length ≤ 9223372036854775807) :
    Calls Try.prog 34 #[.pointer (some ⟨L, 0, none⟩)] w (Popped (fun w' => Fifo w' B L) L xs w) := by
  obtain ⟨p, bk, ys, hb, hch, rfl, hBL, hBs, hnd, hbk⟩ := h
  obtain ⟨c0, c1, c2, f0, f1, f2⟩ := blk_three hb
  have HB := hide hb
  have HBs := hide hBs
  have HND := hide hnd
  have HBK := hide hbk
  clear hb hBs hnd hbk
  cases ys with
  | nil =>
    have hp : p = none := hch
    subst hp
    go_enter Try.func34, Try.ntmps34
    go_wp2
    go_ret2
    exact ⟨rfl, ⟨none, bk, [], HB.out, rfl, rfl, hBL, HBs.out, HND.out, HBK.out⟩, Chg.refl _ _⟩
  | cons y ys =>
    obtain ⟨b, v⟩ := y
    obtain ⟨rfl, q, hbl, hrest⟩ := hch
    obtain ⟨d0, d1, _, _⟩ := blk_two hbl
    have hne : b ≠ L := hbl.ne_ HB.out (by decide)
    have hlt := hbl.lt
    have HBL := hide hbl
    have HR := hide hrest
    simp only [List.map_cons, List.length_cons] at hl c2 HB
    generalize hn : (ys.map (·.2)).length = n at *
    have HN := hide hn
    clear hbl hrest hn
    go_enter Try.func34, Try.ntmps34
    go_wp2
    go_ret2
    refine ⟨rfl, ⟨q, bk, ys, ?_, ?_, rfl, hBL, fun x hx => HBs.out x (List.mem_cons_of_mem _ hx), (List.nodup_cons.1 HND.out).2, fun y hy => HBK.out y ?_⟩, ?_⟩
    · have := (HB.out.set_ 0 (.pointer q)).set_ 2 (.int .i64 n)
      rw [← HN.out] at this ⊢
      exact this
    · refine HR.out.keep (fun b' cs hb' hbb => ?_)
      have hn2 : b' ≠ L := hbb.ne_ HB.out (by decide)
      exact (hbb.far (p := ⟨L, 0, none⟩) hn2 _).far (p := ⟨L, 2, none⟩) hn2 _
    · cases ys with
      | nil => cases hy
      | cons z zs => rw [List.getLast?_cons_cons]; exact hy
    · exact ((Chg.refl (· = L) w).setCell (p := ⟨L, 0, none⟩) (fun _ => rfl) _).setCell (p := ⟨L, 2, none⟩) (fun _ => rfl) _

/-- The nodes of a seat's queues among the blocks from B on. -/
def NodeAt (w : World) (B : Nat → Prop) (k : Nat) : Prop := B k ∧ ∃ cs, Blk w k 115 cs

/-- A node is laid behind the last one. -/
theorem Chain.snoc {w w' : World} {g : Nat} {x : Value} : ∀ {p : Option Addr} {ys : List (Nat × Value)} {y : Nat × Value}, Chain w p ys → ys.getLast? = some y → (ys.map (·.1)).Nodup →
    (∀ b cs, b ∈ ys.map (·.1) → b ≠ y.1 → Blk w b 115 cs → Blk w' b 115 cs) → Blk w' y.1 115 #[y.2, .pointer (some ⟨g, 0, none⟩)] → Blk w' g 115 #[x, .pointer none] → Chain w' p (ys ++ [(g, x)])
  | _, [], _, _, h, _, _, _, _ => by cases h
  | _, [(b, v)], y, h, hl, _, _, h1, h2 => by
    have : (b, v) = y := by simpa using hl
    subst this
    exact ⟨h.1, _, h1, rfl, none, h2, rfl⟩
  | _, (b, v) :: z :: zs, y, h, hl, hn, hk, h1, h2 => by
    obtain ⟨hp, q, hb, hr⟩ := h
    rw [List.getLast?_cons_cons] at hl
    have hn' := List.nodup_cons.1 hn
    have hby : b ≠ y.1 := fun e => hn'.1 (by rw [e]; exact List.mem_map.2 ⟨y, List.mem_of_getLast? hl, rfl⟩)
    exact ⟨hp, q, hk b _ (List.mem_cons_self ..) hby hb, Chain.snoc hr hl hn'.2 (fun b' cs hb' => hk b' cs (List.mem_cons_of_mem _ hb')) h1 h2⟩

/-- What the last node holds. -/
theorem Chain.at_last {w : World} : ∀ {p : Option Addr} {ys : List (Nat × Value)} {y : Nat × Value}, Chain w p ys → ys.getLast? = some y → Blk w y.1 115 #[y.2, .pointer none]
  | _, [], _, _, h => by cases h
  | _, [(b, v)], y, h, hl => by
    have : (b, v) = y := by simpa using hl
    subst this
    obtain ⟨_, q, hb, hq⟩ := h
    have hq' : q = none := hq
    rw [hq'] at hb
    exact hb
  | _, (b, v) :: z :: zs, y, h, hl => by
    obtain ⟨_, q, _, hr⟩ := h
    rw [List.getLast?_cons_cons] at hl
    exact Chain.at_last hr hl

set_option maxHeartbeats 400000 in
theorem fifo_push (B : Nat → Prop) (L : Nat) (xs : List Value) (u : TypeId) (x : Value) (w : World) (h : Fifo w B L xs) (hl : xs.length < 9223372036854775807) :
    Calls Try.prog 33 #[.pointer (some ⟨L, 0, none⟩), .iface u x] w fun e w' => e = .returned (.tuple #[]) ∧ Fifo w' (fun k => B k ∨ k = w.heap.size) L (xs ++ [.iface u x]) ∧ Chg (fun k => k = L ∨ NodeAt w B k) w w' := by
  obtain ⟨p, bk, ys, hb, hch, rfl, hBL, hBs, hnd, hbk⟩ := h
  obtain ⟨c0, c1, c2, f0, f1, f2⟩ := blk_three hb
  have hLw := hb.lt
  have HB := hide hb
  have HBs := hide hBs
  have HND := hide hnd
  have HBK := hide hbk
  clear hb hBs hnd hbk
  cases hys : ys.getLast? with
  | none =>
    have hy0 : ys = [] := List.getLast?_eq_none_iff.1 hys
    subst hy0
    have hp : p = none := hch
    subst hp
    have HLN : Hid (Blk w L 113 #[.pointer none, .pointer bk, .int .i64 0]) := HB.out
    have c2' : w.cell? ⟨L, 2, none⟩ = some (.int .i64 0) := c2
    clear hys c2
    go_enter Try.func33, Try.ntmps33
    go_wp2
    go_end0
    refine ⟨rfl, ⟨some ⟨w.heap.size, 0, none⟩, some ⟨w.heap.size, 0, none⟩, [(w.heap.size, .iface u x)], ?_, ⟨rfl, none, Blk.new_ _ _ _ (by simp), rfl⟩, rfl, Or.inl hBL, ?_, by simp, ?_⟩, ?_⟩
    · exact (((HLN.out.set_ 0 (.pointer (some ⟨w.heap.size, 0, none⟩))).set_ 1 (.pointer (some ⟨w.heap.size, 0, none⟩))).set_ 2 (.int .i64 1)).alloc _
    · intro b hb
      have : b = w.heap.size := by simpa using hb
      exact Or.inr this
    · intro y hy
      have : (w.heap.size, Value.iface u x) = y := by simpa using hy
      rw [← this]
    · exact ((((Chg.refl (fun k => k = L ∨ NodeAt w B k) w).setCell (p := ⟨L, 0, none⟩) (fun _ => Or.inl rfl) _).setCell (p := ⟨L, 1, none⟩) (fun _ => Or.inl rfl) _).setCell (p := ⟨L, 2, none⟩) (fun _ => Or.inl rfl) _).alloc _
  | some y =>
    have hbkv := HBK.out y hys
    subst hbkv
    have hyb := hch.at_last hys
    obtain ⟨d0, d1, g0, g1⟩ := blk_two hyb
    have hyL : y.1 ≠ L := hyb.ne_ HB.out (by decide)
    have hyn : y.1 < w.heap.size := hyb.lt
    have hyB : Hid (B y.1) := HBs.out _ (List.mem_map.2 ⟨y, List.mem_of_getLast? hys, rfl⟩)
    have hpn : ∃ a, p = some a := by
      cases ys with
      | nil => cases hys
      | cons z zs => exact ⟨_, hch.1⟩
    obtain ⟨a, rfl⟩ := hpn
    have HCH := hide hch
    have HYS := hide hys
    have HYB := hide hyb
    obtain ⟨yb, yv⟩ := y
    simp only at d0 d1 g0 g1 hyL hyn c1
    generalize hn : (ys.map (·.2)).length = n at *
    have HN := hide hn
    clear hch hys hyb hn
    go_enter Try.func33, Try.ntmps33
    go_wp2
    go_end0
    have hLy : L ≠ yb := fun e => hyL e.symm
    refine ⟨rfl, ⟨some a, some ⟨w.heap.size, 0, none⟩, ys ++ [(w.heap.size, .iface u x)], ?_, ?_, by rw [List.map_append]; rfl, Or.inl hBL, ?_, ?_, ?_⟩, ?_⟩
    · have := (((HB.out.far (p := ⟨yb, 1, none⟩) hLy (.pointer (some ⟨w.heap.size, 0, none⟩))).set_ 1 (.pointer (some ⟨w.heap.size, 0, none⟩))).set_ 2 (.int .i64 (n + 1))).alloc (.cells #[.iface u x, .pointer none] 115)
      rw [show ((ys.map (·.2) ++ [Value.iface u x] : List Value).length : Int) = (n : Int) + 1 by rw [List.length_append, HN.out]; rfl]
      exact this
    · refine HCH.out.snoc HYS.out HND.out (fun b' cs hb' hby hbb => ?_) ?_ ?_
      · have hn2 : b' ≠ L := hbb.ne_ HB.out (by decide)
        exact (((hbb.far (p := ⟨yb, 1, none⟩) hby _).far (p := ⟨L, 1, none⟩) hn2 _).far (p := ⟨L, 2, none⟩) hn2 _).alloc _
      · exact (((HYB.out.set_ 1 (.pointer (some ⟨w.heap.size, 0, none⟩))).far (p := ⟨L, 1, none⟩) hyL _).far (p := ⟨L, 2, none⟩) hyL _).alloc _
      · exact Blk.new_ _ _ _ (by simp)
    · intro b hb
      rw [List.map_append] at hb
      rcases List.mem_append.1 hb with hb | hb
      · exact Or.inl (HBs.out b hb)
      · have : b = w.heap.size := by simpa using hb
        exact Or.inr this
    · rw [List.map_append, List.nodup_append]
      refine ⟨HND.out, by simp, fun b hb b' hb' e => ?_⟩
      obtain ⟨cs, hbb⟩ := HCH.out.blk b hb
      have h1 := hbb.lt
      have : b' = w.heap.size := by simpa using hb'
      omega
    · intro y hy
      rw [List.getLast?_concat] at hy
      injection hy with hy
      rw [← hy]
    · exact ((((Chg.refl (fun k => k = L ∨ NodeAt w B k) w).setCell (p := ⟨yb, 1, none⟩) (fun _ => Or.inr ⟨hyB.out, _, HYB.out⟩) _).setCell (p := ⟨L, 1, none⟩) (fun _ => Or.inl rfl) _).setCell (p := ⟨L, 2, none⟩) (fun _ => Or.inl rfl) _).alloc _

set_option maxHeartbeats 400000 in
theorem lifo_new0 (B : Nat → Prop) (w : World) (hB : B w.heap.size) :
    Calls Try.prog 24 #[.slice none 0 0] w fun e w' => e = .returned (.pointer (some ⟨w.heap.size, 0, none⟩)) ∧ Lifo w' B w.heap.size [] ∧ Below w.heap.size w w' := by
  have hnew : Lifo (w.alloc (.cells #[.pointer none, .int .i64 0] 111)) B w.heap.size [] := ⟨none, [], Blk.new _ _ _, rfl, rfl, hB, fun b hb => by cases hb⟩
  have HN := hide hnew
  clear hnew
  go_enter Try.func24, Try.ntmps24
  go_wp2
  refine wp_loop_rounds 1 ?_
  rw [rounds_succ]
  go_wp2
  go_ret
  exact ⟨rfl, HN.out, (Below.refl _ _).alloc (Nat.le_refl _) _⟩

set_option maxHeartbeats 400000 in
theorem fifo_new0 (B : Nat → Prop) (w : World) (hB : B w.heap.size) :
    Calls Try.prog 25 #[.slice none 0 0] w fun e w' => e = .returned (.pointer (some ⟨w.heap.size, 0, none⟩)) ∧ Fifo w' B w.heap.size [] ∧ Below w.heap.size w w' := by
  have hnew : Fifo (w.alloc (.cells #[.pointer none, .pointer none, .int .i64 0] 113)) B w.heap.size [] := ⟨none, none, [], Blk.new _ _ _, rfl, rfl, hB, (fun b hb => by cases hb), by simp, fun y hy => by cases hy⟩
  have HN := hide hnew
  clear hnew
  go_enter Try.func25, Try.ntmps25
  go_wp2
  refine wp_loop_rounds 1 ?_
  rw [rounds_succ]
  go_wp2
  go_ret
  exact ⟨rfl, HN.out, (Below.refl _ _).alloc (Nat.le_refl _) _⟩


theorem Chain.disj {w w' : World} {F S : Nat → Prop} {p : Option Addr} {ys : List (Nat × Value)} (h : Chain w p ys) (hF : ∀ b ∈ ys.map (·.1), F b) (hc : Chg S w w') (hd : ∀ i, F i → ¬ S i) : Chain w' p ys :=
  h.keep (fun b _ hb hbb => hbb.chg hc (hd b (hF b hb)))
theorem Lifo.disj {w w' : World} {F S : Nat → Prop} {L : Nat} {xs : List Value} (h : Lifo w F L xs) (hc : Chg S w w') (hd : ∀ i, F i → ¬ S i) : Lifo w' F L xs := by
  obtain ⟨p, ys, hb, hch, hx, hF, hFs⟩ := h
  exact ⟨p, ys, hb.chg hc (hd L hF), hch.disj hFs hc hd, hx, hF, hFs⟩
theorem Fifo.disj {w w' : World} {F S : Nat → Prop} {L : Nat} {xs : List Value} (h : Fifo w F L xs) (hc : Chg S w w') (hd : ∀ i, F i → ¬ S i) : Fifo w' F L xs := by
  obtain ⟨p, bk, ys, hb, hch, hx, hF, hFs, hr⟩ := h
  exact ⟨p, bk, ys, hb.chg hc (hd L hF), hch.disj hFs hc hd, hx, hF, hFs, hr⟩
theorem Lifo.more {w : World} {F F' : Nat → Prop} {L : Nat} {xs : List Value} (h : Lifo w F L xs) (hF : ∀ i, F i → F' i) : Lifo w F' L xs := by
  obtain ⟨p, ys, hb, hch, hx, h1, h2⟩ := h
  exact ⟨p, ys, hb, hch, hx, hF _ h1, fun b hb => hF b (h2 b hb)⟩
theorem Fifo.more {w : World} {F F' : Nat → Prop} {L : Nat} {xs : List Value} (h : Fifo w F L xs) (hF : ∀ i, F i → F' i) : Fifo w F' L xs := by
  obtain ⟨p, bk, ys, hb, hch, hx, h1, h2, h3⟩ := h
  exact ⟨p, bk, ys, hb, hch, hx, hF _ h1, fun b hb => hF b (h2 b hb), h3⟩

set_option maxHeartbeats 400000 in
theorem lifo_peek (B : Nat → Prop) (L : Nat) (xs : List Value) (w : World) (h : Lifo w B L xs) :
    Calls Try.prog 31 #[.pointer (some ⟨L, 0, none⟩)] w fun e w' => e = .returned (.tuple #[xs.headD .nilIface, .bool (!xs.isEmpty)]) ∧ w' = w := by
  obtain ⟨p, ys, hb, hch, rfl, _, _⟩ := h
  obtain ⟨c0, c1, _, _⟩ := blk_two hb
  clear hb
  cases ys with
  | nil =>
    have hp : p = none := hch
    subst hp
    clear hch
    go_enter Try.func31, Try.ntmps31
    go_wp2
    go_ret2
    exact ⟨rfl, rfl⟩
  | cons y ys =>
    obtain ⟨b, v⟩ := y
    obtain ⟨rfl, q, hbl, _⟩ := hch
    obtain ⟨d0, d1, _, _⟩ := blk_two hbl
    clear hbl
    go_enter Try.func31, Try.ntmps31
    go_wp2
    go_ret2
    exact ⟨rfl, rfl⟩

set_option maxHeartbeats 400000 in
theorem fifo_peek (B : Nat → Prop) (L : Nat) (xs : List Value) (w : World) (h : Fifo w B L xs) :
    Calls Try.prog 35 #[.pointer (some ⟨L, 0, none⟩)] w fun e w' => e = .returned (.tuple #[xs.headD .nilIface, .bool (!xs.isEmpty)]) ∧ w' = w := by
  obtain ⟨p, bk, ys, hb, hch, rfl, _, _, _, _⟩ := h
  obtain ⟨c0, c1, c2, _, _, _⟩ := blk_three hb
  clear hb
  cases ys with
  | nil =>
    have hp : p = none := hch
    subst hp
    clear hch
    go_enter Try.func35, Try.ntmps35
    go_wp2
    go_ret2
    exact ⟨rfl, rfl⟩
  | cons y ys =>
    obtain ⟨b, v⟩ := y
    obtain ⟨rfl, q, hbl, _⟩ := hch
    obtain ⟨d0, d1, _, _⟩ := blk_two hbl
    clear hbl
    go_enter Try.func35, Try.ntmps35
    go_wp2
    go_ret2
    exact ⟨rfl, rfl⟩
end Go.Proofs.Ytammpllfmbmdmaa
