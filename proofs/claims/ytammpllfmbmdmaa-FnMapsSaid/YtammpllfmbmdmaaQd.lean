/- The closure of impl.Queue for the queues (kinds 0 and 1) as a machine. -/
import Derived.Test.YtammpllfmbmdmaaRun2
import Derived.Test.YtammpllfmbmdmaaQueue
namespace Go.Proofs.Ytammpllfmbmdmaa
open Go.RowKit

/-- Numbers as values of the interface type T. -/
def tval (x : Int) : Value := .iface 3 (.int .i64 x)
abbrev tvals (xs : List Int) : List Value := xs.map tval

def zeroAns : AnsD := ⟨0, false, [], false⟩

/-- A queue's answer at a place. -/
def atAns (l : List Int) (i : Nat) : AnsD := if l = [] then zeroAns else ⟨l.getD i 0, true, [], false⟩

/-- A step over a queue. -/
def specQ (kind : Nat) (l : List Int) (s : StepD) : List Int × AnsD × Bool :=
  let i := if kind = 0 then l.length - 1 else 0
  if s.what = 0 then (l ++ [s.n], zeroAns, true)
  else if s.what = 1 then (l.eraseIdx i, atAns l i, true)
  else if s.what = 2 then (l, atAns l i, true)
  else if s.what = 3 then (l, ⟨l.length, false, [], false⟩, true)
  else (l, zeroAns, decide (4 ≤ s.what ∧ s.what ≤ 6))

theorem assert_some (x : Int) (w : World) : (Instr.typeAssert (.iface 3 (.int .i64 x)) 67 3 true).run Try.prog w = .ok (.tuple #[.int .i64 x, .bool true]) w := by kernel_rfl
theorem assert_nil (w : World) : (Instr.typeAssert .nilIface 67 3 true).run Try.prog w = .ok (.tuple #[.int .i64 0, .bool false]) w := by kernel_rfl

set_option maxHeartbeats 400000 in
theorem number_any (l : List Int) (i : Nat) (v : Value) (hv : v = if l = [] then .nilIface else tval (l.getD i 0)) (w : World) :
    Calls Try.prog 29 #[v, .bool (!l.isEmpty)] w fun e w' => e = .returned (.agg ((atAns l i).cells (.slice none 0 0))) ∧ Below w.heap.size w w' := by
  have hB : ∀ cs, Hid (Below w.heap.size w (w.alloc (.cells cs 46))) := fun cs => (Below.refl _ _).alloc (Nat.le_refl _) _
  by_cases h : l = []
  · subst h
    rw [if_pos rfl] at hv
    subst hv
    have ha := assert_nil
    go_enter Try.func29, Try.ntmps29
    go_wp2
    refine bodyPost_ret (v := .agg #[.int .i64 0, .bool false, .slice none 0 0, .bool false]) ?_ rfl ?_
    · simp [results, Try.f29, go_sem]
    · exact ⟨rfl, (hB _).out⟩
  · rw [if_neg h] at hv
    have he : (!l.isEmpty) = true := by simpa using h
    have hat : atAns l i = ⟨l.getD i 0, true, [], false⟩ := by unfold atAns; rw [if_neg h]
    rw [hat, he]
    generalize l.getD i 0 = x at *
    subst hv
    have ha := assert_some x
    clear hat he h
    unfold tval
    go_enter Try.func29, Try.ntmps29
    go_wp2
    refine bodyPost_ret (v := .agg #[.int .i64 x, .bool true, .slice none 0 0, .bool false]) ?_ rfl ?_
    · simp [results, Try.f29, go_sem]
    · exact ⟨rfl, (hB _).out⟩

/-- The state of the LIFO queue in memory. -/
def QInv (Qu : World → (Nat → Prop) → Nat → List Value → Prop) (kind : Int) (B kb lv lt L : Nat) (rev : Bool) (w : World) (l : List Int) (F : Nat → Prop) : Prop :=
  Blk w kb 3 #[.int .i64 kind] ∧ Blk w lv lt #[.pointer (some ⟨L, 0, none⟩)] ∧ Qu w F L (tvals (if rev then l.reverse else l)) ∧ F kb ∧ F lv ∧ ∀ i, F i → B ≤ i ∧ i < w.heap.size

/-- The machine of a LIFO queue. -/
def mach0 (B kb lv fv sv gv L : Nat) : Mach (List Int) where
  B := B
  id := 27
  caps := #[.pointer (some ⟨kb, 0, none⟩), .pointer (some ⟨lv, 0, none⟩), .pointer (some ⟨fv, 0, none⟩), .pointer (some ⟨sv, 0, none⟩), .pointer (some ⟨gv, 0, none⟩)]
  enters := Try.call27
  Inv := QInv Lifo 0 B kb lv 54 L true
  stp := fun l s => ((specQ 0 l s).1, some (specQ 0 l s).2.1)
  good := fun l s => 0 ≤ s.what ∧ s.what ≤ 6 ∧ l.length ≤ 1099511627776
  keep := fun {w w' x F S} h hc hd => by
    obtain ⟨h1, h2, h3, h4, h5, h6⟩ := h
    exact ⟨h1.chg hc (hd _ h4), h2.chg hc (hd _ h5), h3.disj hc hd, h4, h5, fun i hi => ⟨(h6 i hi).1, Nat.lt_of_lt_of_le (h6 i hi).2 hc.size⟩⟩
  lt := fun {w x F} h => h.2.2.2.2.2

/-- The machine of a FIFO queue. -/
def mach1 (B kb lv fv sv gv L : Nat) : Mach (List Int) where
  B := B
  id := 27
  caps := #[.pointer (some ⟨kb, 0, none⟩), .pointer (some ⟨lv, 0, none⟩), .pointer (some ⟨fv, 0, none⟩), .pointer (some ⟨sv, 0, none⟩), .pointer (some ⟨gv, 0, none⟩)]
  enters := Try.call27
  Inv := QInv Fifo 1 B kb fv 56 L false
  stp := fun l s => ((specQ 1 l s).1, some (specQ 1 l s).2.1)
  good := fun l s => 0 ≤ s.what ∧ s.what ≤ 6 ∧ l.length ≤ 1099511627776
  keep := fun {w w' x F S} h hc hd => by
    obtain ⟨h1, h2, h3, h4, h5, h6⟩ := h
    exact ⟨h1.chg hc (hd _ h4), h2.chg hc (hd _ h5), h3.disj hc hd, h4, h5, fun i hi => ⟨(h6 i hi).1, Nat.lt_of_lt_of_le (h6 i hi).2 hc.size⟩⟩
  lt := fun {w x F} h => h.2.2.2.2.2

/-- What both kinds of queue offer. -/
structure QL (Qu : World → (Nat → Prop) → Nat → List Value → Prop) : Prop where
  ty : ∀ {w : World} {F : Nat → Prop} {L : Nat} {xs : List Value}, Qu w F L xs → F L ∧ ∃ t cs, Blk w L t cs ∧ t ≠ 3 ∧ t ≠ 54 ∧ t ≠ 56
theorem lifo_ql : QL Lifo := ⟨fun h => by
  obtain ⟨p, ys, hb, _, _, hF, _⟩ := h
  exact ⟨hF, 111, _, hb, by decide, by decide, by decide⟩⟩
theorem fifo_ql : QL Fifo := ⟨fun h => by
  obtain ⟨p, bk, ys, hb, _, _, hF, _⟩ := h
  exact ⟨hF, 113, _, hb, by decide, by decide, by decide⟩⟩

theorem QInv.after {Qu : World → (Nat → Prop) → Nat → List Value → Prop} (hq : QL Qu) {kind : Int} {B kb lv lt L : Nat} {rev : Bool} {w w1 : World} {l l' : List Int} {F F1 : Nat → Prop} (hlt : lt = 54 ∨ lt = 56) (h : QInv Qu kind B kb lv lt L rev w l F)
    (hc : Chg (fun k => k = L ∨ NodeAt w F k) w w1) (h' : Qu w1 F1 L (tvals (if rev then l'.reverse else l'))) (hF : ∀ i, F i → F1 i) (hF1 : ∀ i, F1 i → (F i ∨ i = w.heap.size) ∧ i < w1.heap.size) (hB : B ≤ w.heap.size) : QInv Qu kind B kb lv lt L rev w1 l' F1 := by
  obtain ⟨h1, h2, h3, h4, h5, h6⟩ := h
  obtain ⟨_, t, cs, hb, n1, n2, n3⟩ := hq.ty h3
  refine ⟨h1.chg hc ?_, h2.chg hc ?_, h', hF _ h4, hF _ h5, fun i hi => ?_⟩
  · rintro (e | ⟨_, cs', hn⟩)
    · exact hb.ne_ h1 n1 e.symm
    · exact hn.ne_ h1 (by decide) rfl
  · rintro (e | ⟨_, cs', hn⟩)
    · exact hb.ne_ h2 (by rcases hlt with rfl | rfl; exact n2; exact n3) e.symm
    · exact hn.ne_ h2 (by rcases hlt with rfl | rfl <;> decide) rfl
  · obtain ⟨h7, h8⟩ := hF1 i hi
    rcases h7 with h7 | h7
    · exact ⟨(h6 i h7).1, h8⟩
    · exact ⟨by omega, h8⟩

theorem Lifo.lts {w : World} {F : Nat → Prop} {L : Nat} {xs : List Value} (h : Lifo w F L xs) : Lifo w (fun i => F i ∧ i < w.heap.size) L xs := by
  obtain ⟨p, ys, hb, hch, hx, h1, h2⟩ := h
  exact ⟨p, ys, hb, hch, hx, ⟨h1, hb.lt⟩, fun b hbb => ⟨h2 b hbb, by obtain ⟨cs, h⟩ := hch.blk b hbb; exact h.lt⟩⟩
theorem Fifo.lts {w : World} {F : Nat → Prop} {L : Nat} {xs : List Value} (h : Fifo w F L xs) : Fifo w (fun i => F i ∧ i < w.heap.size) L xs := by
  obtain ⟨p, bk, ys, hb, hch, hx, h1, h2, h3⟩ := h
  exact ⟨p, bk, ys, hb, hch, hx, ⟨h1, hb.lt⟩, fun b hbb => ⟨h2 b hbb, by obtain ⟨cs, h⟩ := hch.blk b hbb; exact h.lt⟩, h3⟩

/-- How the closure starts: the step in a variable, the answer in another one. -/
theorem start_facts (w : World) (cs : Array Value) (z : Array Value) : Below w.heap.size w ((w.alloc (.cells cs 29)).alloc (.cells z 46)) ∧ Blk ((w.alloc (.cells cs 29)).alloc (.cells z 46)) (w.heap.size + 1) 46 z ∧ ((w.alloc (.cells cs 29)).alloc (.cells z 46)).heap.size = w.heap.size + 2 :=
  ⟨((Below.refl _ _).alloc (Nat.le_refl _) _).alloc (by simp) _, Blk.new_ _ _ _ (by simp), by simp⟩

/-- How it ends. -/
theorem done_ok {σ : Type} (M : Mach σ) {x x' : σ} {F F1 : Nat → Prop} {s : StepD} {pan : World → Ending → World → Prop} {w w1 w2 : World} {a : AnsD} {r c : Nat} {A : Option Addr} (hst : M.stp x s = (x', some a)) (hp : a.panicked = false)
    (hI : M.Inv w1 x' F1) (hF1 : ∀ i, F1 i → F i ∨ w.heap.size ≤ i) (hn : ¬ F1 r) (hr : w.heap.size ≤ r) (hc1 : Chg F w w1) (hc2 : Chg (· = r) w1 w2) (hsl : SliceIs w2 (Free w2 F1) A a.list.length c a.list) :
    Stepped M x F s pan w (.returned (.agg (a.cells (.slice A a.list.length c)))) w2 := by
  refine Or.inl ⟨a, A, c, F1, by rw [hst], hp, rfl, hsl, ?_, hF1, hc1.trans hc2 (fun i hi e => absurd e (by omega))⟩
  rw [hst]
  exact M.keep hI hc2 (fun i hi e => hn (e ▸ hi))

theorem set4_chg (w : World) (r : Nat) (a b c d : Value) : Chg (· = r) w ((((w.setCell ⟨r, 0, none⟩ a).setCell ⟨r, 1, none⟩ b).setCell ⟨r, 2, none⟩ c).setCell ⟨r, 3, none⟩ d) :=
  ((((Chg.refl (· = r) w).setCell (p := ⟨r, 0, none⟩) (fun _ => rfl) _).setCell (p := ⟨r, 1, none⟩) (fun _ => rfl) _).setCell (p := ⟨r, 2, none⟩) (fun _ => rfl) _).setCell (p := ⟨r, 3, none⟩) (fun _ => rfl) _

theorem set5_chg (w : World) (r : Nat) (z a b c d : Value) : Chg (· = r) w (((((w.setCell ⟨r, 0, none⟩ z).setCell ⟨r, 0, none⟩ a).setCell ⟨r, 1, none⟩ b).setCell ⟨r, 2, none⟩ c).setCell ⟨r, 3, none⟩ d) :=
  (((((Chg.refl (· = r) w).setCell (p := ⟨r, 0, none⟩) (fun _ => rfl) _).setCell (p := ⟨r, 0, none⟩) (fun _ => rfl) _).setCell (p := ⟨r, 1, none⟩) (fun _ => rfl) _).setCell (p := ⟨r, 2, none⟩) (fun _ => rfl) _).setCell (p := ⟨r, 3, none⟩) (fun _ => rfl) _
theorem atAns_pan (l : List Int) (i : Nat) : (atAns l i).panicked = false := by unfold atAns; split <;> rfl
theorem atAns_list (l : List Int) (i : Nat) : (atAns l i).list = [] := by unfold atAns; split <;> rfl
theorem len_lifo (l : List Int) : (((tvals l.reverse).length : Nat) : Int) = (l.length : Int) := by simp
theorem len_fifo (l : List Int) : (((tvals l).length : Nat) : Int) = (l.length : Int) := by simp
theorem empty_lifo (l : List Int) : (!(tvals l.reverse).isEmpty) = !l.isEmpty := by simp
theorem empty_fifo (l : List Int) : (!(tvals l).isEmpty) = !l.isEmpty := by simp
theorem head_fifo (l : List Int) : (tvals l).headD .nilIface = if l = [] then .nilIface else tval (l.getD 0 0) := by cases l <;> simp
theorem head_lifo (l : List Int) : (tvals l.reverse).headD .nilIface = if l = [] then .nilIface else tval (l.getD (l.length - 1) 0) := by
  rcases List.eq_nil_or_concat l with rfl | ⟨m, x, rfl⟩
  · rfl
  · simp
theorem tail_fifo (l : List Int) : (tvals l).tail = tvals (l.eraseIdx 0) := by cases l <;> rfl
theorem tail_lifo (l : List Int) : (tvals l.reverse).tail = tvals (l.eraseIdx (l.length - 1)).reverse := by
  rcases List.eq_nil_or_concat l with rfl | ⟨m, x, rfl⟩
  · rfl
  · simp [List.eraseIdx_append_of_length_le]
end Go.Proofs.Ytammpllfmbmdmaa
