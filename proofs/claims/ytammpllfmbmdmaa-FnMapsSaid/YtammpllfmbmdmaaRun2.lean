/- The walk of impl.run: all steps of a machine, up to one that panics. -/
import Derived.Test.YtammpllfmbmdmaaRun
import Derived.Maps.AppendAt
namespace Go.Proofs.Ytammpllfmbmdmaa
open Go.RowKit

/-- The answers of a machine's steps. -/
def Mach.outs {σ : Type} (M : Mach σ) : σ → List StepD → List AnsD
  | _, [] => []
  | x, s :: S => match (M.stp x s).2 with
    | some a => a :: M.outs (M.stp x s).1 S
    | none => [panAns]

theorem Mach.outs_some {σ : Type} {M : Mach σ} {x : σ} {s : StepD} {S : List StepD} {a : AnsD} (h : (M.stp x s).2 = some a) : M.outs x (s :: S) = a :: M.outs (M.stp x s).1 S := by
  show (match (M.stp x s).2 with | some a => a :: M.outs (M.stp x s).1 S | none => [panAns]) = _
  rw [h]
theorem Mach.outs_none {σ : Type} {M : Mach σ} {x : σ} {s : StepD} {S : List StepD} (h : (M.stp x s).2 = none) : M.outs x (s :: S) = [panAns] := by
  show (match (M.stp x s).2 with | some a => a :: M.outs (M.stp x s).1 S | none => [panAns]) = _
  rw [h]

theorem cells_new (w : World) (cs : List Value) (t : TypeId) : ∀ j u, cs[j]? = some u → (w.alloc (.cells cs.toArray t)).cell? ((⟨w.heap.size, 0, none⟩ : Addr).add j) = some u := by
  intro j u hj
  rw [add_plain, Nat.zero_add, (Blk.new w t cs.toArray).cell]
  simpa using hj

theorem own_chg {w w' : World} {base e size n : Nat} {v : Value} {xs : List Value} {S : Nat → Prop} (h : w.ownsRow base e size v n xs) (hc : Chg S w w') (hn : ∀ g, v.ownBlock = some g → ¬ S g) : w'.ownsRow base e size v n xs := by
  obtain ⟨hl, h2⟩ := h
  refine ⟨hl, ?_⟩
  rcases h2 with h2 | ⟨g, cap, cur, rfl, hb, hh, r⟩
  · exact .inl h2
  · have hbl : Blk w g e cur := hh
    exact .inr ⟨g, cap, cur, rfl, hb, hbl.chg hc (hn g rfl), r⟩

theorem own_blk {w : World} {base e size n : Nat} {v : Value} {xs : List Value} (h : w.ownsRow base e size v n xs) {g : Nat} (hg : v.ownBlock = some g) : ∃ cs, Blk w g e cs := by
  rcases h.2 with ⟨rfl, _⟩ | ⟨g', cap, cur, rfl, _, hh, _⟩
  · cases hg
  · have : g' = g := by simpa [Value.ownBlock] using hg
    subst this; exact ⟨cur, hh⟩

theorem ansFlat_snoc (P : List (AnsD × Value)) (a : AnsD) (v : Value) : ansFlat (P ++ [(a, v)]) = ansFlat P ++ [.int .i64 a.n, .bool a.ok, v, .bool a.panicked] := by
  simp [ansFlat, AnsD.cells]

theorem Free.mono {w w' : World} {F F' : Nat → Prop} (hc : Chg F w w') (hF : ∀ i, F' i → F i ∨ w.heap.size ≤ i) (i : Nat) (h : Free w F i) : Free w' F' i := by
  obtain ⟨hn, cs, hb⟩ := h
  exact ⟨fun h => (hF i h).elim hn (fun h => by have := hb.lt; omega), cs, hb.chg hc hn⟩

/-- Behind a step the answers handed out stand. -/
theorem OutRow.step {w w' : World} {F F' : Nat → Prop} {base : Nat} {v : Value} {P : List (AnsD × Value)} (h : OutRow w (Free w F) 46 base v P) (hc : Chg F w w') (hF : ∀ i, F' i → F i ∨ w.heap.size ≤ i) (hv : ∀ g, v.ownBlock = some g → ¬ F g) : OutRow w' (Free w' F') 46 base v P :=
  ⟨own_chg h.own hc hv, fun p hp => by
    obtain ⟨LA, lc, e, hs⟩ := h.lists p hp
    exact ⟨LA, lc, e, (hs.chg hc (fun i _ hk => hk.1)).more (fun i _ hk => Free.mono hc hF i hk)⟩⟩

/-- One more answer, laid at the row's end. -/
theorem OutRow.more {w w' : World} {F : Nat → Prop} {base : Nat} {v v' : Value} {P : List (AnsD × Value)} {a : AnsD} {A : Option Addr} {c : Nat} {S : Nat → Prop} (h : OutRow w (Free w F) 46 base v P) (hs : SliceIs w (Free w F) A a.list.length c a.list)
    (hown : w'.ownsRow base 46 4 v' (P.length + 1) (ansFlat P ++ [.int .i64 a.n, .bool a.ok, .slice A a.list.length c, .bool a.panicked])) (hc : Chg S w w') (hS : ∀ i cs, Blk w i 3 cs → ¬ S i) : OutRow w' (Free w' F) 46 base v' (P ++ [(a, .slice A a.list.length c)]) := by
  have hfr : ∀ i, Free w F i → ¬ S i := fun i ⟨_, cs, hb⟩ => hS i cs hb
  have hmv : ∀ i, i < w'.heap.size → Free w F i → Free w' F i := fun i _ ⟨hn, cs, hb⟩ => ⟨hn, cs, hb.chg hc (hS i cs hb)⟩
  refine ⟨by rw [ansFlat_snoc, List.length_append]; exact hown, fun p hp => ?_⟩
  rcases List.mem_append.1 hp with hp | hp
  · obtain ⟨LA, lc, e, hsl⟩ := h.lists p hp
    exact ⟨LA, lc, e, (hsl.chg hc (fun i _ hk => hfr i hk)).more hmv⟩
  · rw [List.mem_singleton.1 hp]
    exact ⟨A, c, rfl, (hs.chg hc (fun i _ hk => hfr i hk)).more hmv⟩

/-- 'append(out, a)', a an answer in a variable of its own: its cells have been laid twice. -/
theorem wpList_append_ans {ops : Array Oper} {rest : List Oper} {o : Oper} {act : Act} {Q : Exit → Act → World → Prop} (hgd : o.guard = none) (s x : Operand) (t : TypeId)
    (ho : o.op = .call { callee := .builtin .append, args := #[s, x], argTypes := #[t, t] })
    (e : TypeId) (i : TypeInfo) (z : Value) (ht : Try.prog.underlying t = some (.slice e)) (hi : Try.prog.info? e = some i) (hz : i.zero = some z) (hs : i.size = 4) (hby : i.bytes = 48) (hzs : z.cells.size = 4)
    (w3 : World) (base : Nat) (v : Value) (m : Nat) (xs : List Value) (hown : w3.ownsRow base e 4 v m xs) (n : Int) (ok : Bool) (A : Option Addr) (l c : Nat) (pan : Bool)
    (hsv : act.eval s = v) (hxv : act.eval x = .slice (some ⟨w3.heap.size + 1, 0, none⟩) 1 1) (hm : m ≤ 1099511627776) (hbase : base ≤ w3.heap.size)
    (h : ∀ v' w', w'.ownsRow base e 4 v' (m + 1) (xs ++ [.int .i64 n, .bool ok, .slice A l c, .bool pan]) → Chg (fun g => v.ownBlock = some g) w3 w' → (v'.ownBlock = v.ownBlock ∨ v'.ownBlock = some (w3.heap.size + 2)) →
      Blk w' w3.heap.size e #[.int .i64 n, .bool ok, .slice A l c, .bool pan] → wpList Try.prog ops Q rest (act.put o.dst v') w') :
    wpList Try.prog ops Q (o :: rest) act ((w3.alloc (.cells #[.int .i64 n, .bool ok, .slice A l c, .bool pan] e)).alloc (.cells #[.int .i64 n, .bool ok, .slice A l c, .bool pan] e)) := by
  refine wpList_append_own_at _ hgd s x t ho base e i z 4 48 ht hi hz hs hby hzs (by decide) v m xs hsv ((hown.alloc _).alloc _) ⟨w3.heap.size + 1, 0, none⟩ 1 1 [.int .i64 n, .bool ok, .slice A l c, .bool pan] hxv rfl ?_ ?_ (by unfold maxLen; omega) (by omega) (by simp; omega) ?_
  · have h := cells_new (w3.alloc (.cells #[.int .i64 n, .bool ok, .slice A l c, .bool pan] e)) [.int .i64 n, .bool ok, .slice A l c, .bool pan] e
    rw [World.size_alloc] at h
    exact h
  · intro u hu
    simp at hu
    rcases hu with rfl | rfl | rfl | rfl <;> rfl
  · intro v' w' h1 h2 _ h3
    refine h v' w' h1 ?_ ?_ ?_
    · exact (((Chg.refl (fun g => v.ownBlock = some g) w3).alloc _).alloc _).trans (Chg.ofGrown (S := fun g => v.ownBlock = some g) h2 (fun g hg _ => hg)) (fun _ _ h => h)
    · simpa using h3
    · have hb : Blk ((w3.alloc (.cells #[.int .i64 n, .bool ok, .slice A l c, .bool pan] e)).alloc (.cells #[.int .i64 n, .bool ok, .slice A l c, .bool pan] e)) w3.heap.size e #[.int .i64 n, .bool ok, .slice A l c, .bool pan] := (Blk.new _ _ _).alloc _
      refine (h2.block w3.heap.size hb.lt ?_).trans hb
      intro e
      have := (hown.lt _ e.symm).2
      omega

/-- All steps are such as the machine knows. -/
def Mach.allGood {σ : Type} (M : Mach σ) : σ → List StepD → Prop
  | _, [] => True
  | x, s :: S => M.good x s ∧ ((M.stp x s).2.isSome → M.allGood (M.stp x s).1 S)

/-- What run hands back. -/
def Ran {σ : Type} (M : Mach σ) (x : σ) (S : List StepD) (w : World) (e : Ending) (w' : World) : Prop :=
  ∃ v P F, e = .returned v ∧ OutRow w' (Free w' F) 46 w.heap.size v P ∧ P.map (·.1) = M.outs x S ∧ Chg (fun i => M.B ≤ i) w w'

/-- The loop of run. -/
structure RunI {σ : Type} (M : Mach σ) (x0 : σ) (S : List StepD) (w wr : World) (fb j : Nat) (v : Value) (x : σ) (F : Nat → Prop) (P : List (AnsD × Value)) : Prop where
  inv : M.Inv wr x F
  out : OutRow wr (Free wr F) 46 w.heap.size v P
  len : P.length = j
  eq : M.outs x0 S = P.map (·.1) ++ M.outs x (S.drop j)
  apart : ∀ g, v.ownBlock = some g → ¬ F g
  chg : Chg (fun i => M.B ≤ i) w wr
  fn : Blk wr fb 75 #[.func (.func M.id) #[] M.caps]
  fnF : ¬ F fb
  gd : M.allGood x (S.drop j)

set_option maxHeartbeats 1000000 in
set_option maxRecDepth 100000 in
theorem run_any {σ : Type} (M : Mach σ) (hM : M.Ok) (x0 : σ) (F0 : Nat → Prop) (A : Option Addr) (k c : Nat) (S : List StepD) (w : World) (hi : M.Inv w x0 F0) (hs : StepsIn w (fun i => i < M.B) A k S) (hk : k ≤ 2147483647) (hgood : M.allGood x0 S) (_hBw : M.B ≤ w.heap.size) :
    Calls Try.prog 26 #[.slice A k c, .func (.func M.id) #[] M.caps] w (Ran M x0 S w) := by
  have hmf : ∀ (fn : Fn) (first cap : Array Value) (w : World), (Instr.makeFunc fn first cap).run Try.prog w = .ok (.func fn first cap) w := fun _ _ _ _ => rfl
  obtain ⟨i0, hinf, hz0, hz1, hz2⟩ := info_parts info46
  have HI0 : Hid (RunI M x0 S w (w.alloc (.cells #[.func (.func M.id) #[] M.caps] 75)) w.heap.size 0 (.slice none 0 0) x0 F0 []) := by
    have hb : Below w.heap.size w (w.alloc (.cells #[.func (.func M.id) #[] M.caps] 75)) := (Below.refl _ _).alloc (Nat.le_refl _) _
    refine ⟨M.keep hi (Chg.ofBelow hb (fun _ => False)) (fun _ _ h => h), ⟨World.ownsRow_nil _ _ _ _, fun p hp => by cases hp⟩, rfl, rfl, (fun g hg => by cases hg), Chg.ofBelow hb _, Blk.new _ _ _, (fun h => by have := (M.lt hi _ h).2; omega), hgood⟩
  have HS := hide hs
  have hM' := hide hM
  clear hi hs hM hgood
  go_enter Try.func26, Try.ntmps26
  go_wp2
  go_loopw [6, 13] (fun v i wr => ∃ (j : Nat) (x : σ) (F : Nat → Prop) (P : List (AnsD × Value)), j ≤ k ∧ i = .int .i64 j ∧ RunI M x0 S w wr w.heap.size j v x F P) (fun _ i _ => k - (intOf i).toNat)
  case atStart => exact ⟨0, x0, F0, [], Nat.zero_le _, rfl, HI0.out⟩
  case round =>
    obtain ⟨j, x, F, P, hj, rfl, hr⟩ := hrel
    have HR := hide hr
    clear hr
    by_cases hlt : j < k
    · have hst := HS.out.chg HR.out.chg (fun i _ hi h => by omega)
      obtain ⟨ad, s, LA, lc, rfl, hx, hst⟩ := hst.2 j hlt
      have HX := hide hx
      have HSL := hide (hst.sl.more (K' := fun i => i < wr.heap.size) (fun _ hi _ => hi))
      obtain ⟨c0, c1, c2, c3, c4, c5, c6, c7⟩ := And.intro hst.c0 (And.intro hst.c1 (And.intro hst.c2 (And.intro hst.c3 (And.intro hst.c4 (And.intro hst.c5 (And.intro hst.c6 hst.c7))))))
      clear hx hst
      have hb1 : Below wr.heap.size wr (wr.alloc (.cells (s.cells (.slice LA s.list.length lc)) 29)) := (Below.refl _ _).alloc (Nat.le_refl _) _
      have hnd0 : S.drop j = s :: S.drop (j + 1) := by
        have := List.getElem?_eq_some_iff.1 HX.out
        rw [← this.2]
        exact List.drop_eq_getElem_cons this.1
      have hgd0 := HR.out.gd
      rw [hnd0] at hgd0
      have HGD := hide hgd0
      clear hnd0 hgd0
      have hcall := one_any M hM'.out x F s LA lc w.heap.size (wr.alloc (.cells (s.cells (.slice LA s.list.length lc)) 29)) HGD.out.1 (M.keep HR.out.inv (Chg.ofBelow hb1 (fun _ => False)) (fun _ _ h => h)) ((HSL.out.below hb1).more (fun _ _ hi => Nat.lt_of_lt_of_le hi hb1.size)) (HR.out.fn.alloc _)
      have HB1 := hide hb1
      clear hb1
      unfold StepD.cells at hcall HB1
      go_wp2_with fail
      refine hcall.mono ?_
      clear hcall c0 c1 c2 c3 c4 c5 c6 c7
      have hszW : Hid ((wr.alloc (.cells #[.int .i64 s.what, .int .i64 s.which, .int .i64 s.index, .int .i64 s.bit, .int .i64 s.n, .int .i64 s.key, .int .i64 s.value, .slice LA s.list.length lc] 29)).heap.size = wr.heap.size + 1) := by show _ = _; simp
      generalize hW : wr.alloc (.cells #[.int .i64 s.what, .int .i64 s.which, .int .i64 s.index, .int .i64 s.bit, .int .i64 s.n, .int .i64 s.key, .int .i64 s.value, .slice LA s.list.length lc] 29) = W at *
      clear hW
      rintro e w3 (⟨a, RA, rc, F', hst, hpn, rfl, hsl, hinv, hF', hcg⟩ | ⟨hst, hcg, rfl⟩)
      · have hO3 : OutRow w3 (Free w3 F') 46 w.heap.size u6 P := (HR.out.out.step (Chg.ofBelow HB1.out F) (fun i h => Or.inl h) HR.out.apart).step hcg hF' HR.out.apart
        have hap : ∀ g, u6.ownBlock = some g → ¬ F' g := fun g hg h => (hF' g h).elim (HR.out.apart g hg) (fun h => by
          have h1 := (HR.out.out.own.lt g hg).2
          have h2 := hszW.out
          omega)
        have hfn : Blk w3 w.heap.size 75 #[.func (.func M.id) #[] M.caps] := (HR.out.fn.below HB1.out HR.out.fn.lt).chg hcg HR.out.fnF
        have hfF : ¬ F' w.heap.size := fun h => (hF' _ h).elim HR.out.fnF (fun h => by
          have h1 := HR.out.fn.lt
          have h2 := hszW.out
          omega)
        have hc3 : Chg (fun i => M.B ≤ i) w w3 := HR.out.chg.trans ((Chg.ofBelow HB1.out F).trans hcg (fun _ _ h => h)) (fun i _ h => (M.lt HR.out.inv i h).1)
        have hsz3 : wr.heap.size ≤ w3.heap.size := Nat.le_trans HB1.out.size hcg.size
        have hOUT := hide hO3
        have HAP := hide hap
        have HFN := hide hfn
        have HFF := hide hfF
        have HC3 := hide hc3
        have HST := hide hst
        have HPN := hide hpn
        have HSLa := hide hsl
        have HINV := hide hinv
        have hws : Hid (w.heap.size ≤ wr.heap.size) := HR.out.chg.size
        obtain ⟨m, hm⟩ : ∃ m, m = P.length := ⟨_, rfl⟩
        have hmj : m = j := by rw [hm]; exact HR.out.len
        have hown := hO3.own
        rw [← hm] at hown
        have HM := hide hm
        clear hO3 hap hfn hfF hc3 hst hsl hinv hcg hF' hm
        unfold AnsD.cells
        rw [hpn]
        go_wp2_with (at_builtin; go_must (refine wpList_append_ans rfl _ _ 37 rfl 46 i0 _ Try.underlying37 hinf hz0 hz1 hz2 rfl w3 w.heap.size u6 m _ hown a.n a.ok RA a.list.length rc false rfl rfl (by omega) (by have := hws.out; omega) ?_); intro v' w6 hown' hc6 hat hb6; have hk3 : w6.cell? ⟨w3.heap.size, 3, none⟩ = some (.bool false) := (by rw [hb6.cell]; rfl); have HOWN6 := hide hown'; have HC6 := hide hc6; have HAT := hide hat; clear hown' hc6 hat hb6)
        go_roundw
        case measure => simp [intOf]; omega
        case rel =>
          have h46 : ∀ g, u6.ownBlock = some g → ∃ cs, Blk w3 g 46 cs := fun g hg => own_blk hOUT.out.own hg
          have hown2 := HOWN6.out
          rw [HM.out] at hown2
          rw [← HPN.out] at hown2
          have hnd : S.drop j = s :: S.drop (j + 1) := by
            have := List.getElem?_eq_some_iff.1 HX.out
            rw [← this.2]
            exact List.drop_eq_getElem_cons this.1
          refine ⟨j + 1, (M.stp x s).1, F', P ++ [(a, .slice RA a.list.length rc)], by omega, by go_num, ?_, ?_, ?_, ?_, ?_, ?_, ?_, ?_, ?_⟩
          · exact M.keep HINV.out HC6.out (fun i hi h => HAP.out i h hi)
          · exact OutRow.more hOUT.out HSLa.out hown2 HC6.out (fun i cs hb h => by
              obtain ⟨cs', hb'⟩ := h46 i h
              exact hb.ne_ hb' (by decide) rfl)
          · rw [List.length_append, ← HM.out]; simp; omega
          · rw [HR.out.eq, hnd, Mach.outs_some HST.out, List.map_append, List.append_assoc]; rfl
          · intro g hg
            rcases HAT.out with h | h
            · exact HAP.out g (h ▸ hg)
            · rw [h] at hg
              injection hg with hg
              intro hF
              have := (M.lt HINV.out g hF).2
              omega
          · exact HC3.out.trans HC6.out (fun i _ h => by
              have := (hOUT.out.own.lt i h).1
              show M.B ≤ i
              omega)
          · refine HFN.out.chg HC6.out (fun h => ?_)
            obtain ⟨cs', hb'⟩ := h46 _ h
            exact HFN.out.ne_ hb' (by decide) rfl
          · exact HFF.out
          · exact HGD.out.2 (by rw [HST.out]; rfl)
      · have hO3 : OutRow w3 (Free w3 F) 46 w.heap.size u6 P := (HR.out.out.step (Chg.ofBelow HB1.out F) (fun i h => Or.inl h) HR.out.apart).step hcg (fun i h => Or.inl h) HR.out.apart
        have hc3 : Chg (fun i => M.B ≤ i) w w3 := HR.out.chg.trans ((Chg.ofBelow HB1.out F).trans hcg (fun _ _ h => h)) (fun i _ h => (M.lt HR.out.inv i h).1)
        have hsz3 : wr.heap.size ≤ w3.heap.size := Nat.le_trans HB1.out.size hcg.size
        have hOUT := hide hO3
        have HC3 := hide hc3
        have HST := hide hst
        have hws : Hid (w.heap.size ≤ wr.heap.size) := HR.out.chg.size
        obtain ⟨m, hm⟩ : ∃ m, m = P.length := ⟨_, rfl⟩
        have hmj : m = j := by rw [hm]; exact HR.out.len
        have hown := hO3.own
        rw [← hm] at hown
        have HM := hide hm
        clear hO3 hc3 hst hcg hm
        unfold panAns AnsD.cells
        go_wp2_with (at_builtin; go_must (refine wpList_append_ans rfl _ _ 37 rfl 46 i0 _ Try.underlying37 hinf hz0 hz1 hz2 rfl w3 w.heap.size u6 m _ hown 0 false none 0 0 true rfl rfl (by omega) (by have := hws.out; omega) ?_); intro v' w6 hown' hc6 hat hb6; have hk3 : w6.cell? ⟨w3.heap.size, 3, none⟩ = some (.bool true) := (by rw [hb6.cell]; rfl); have HOWN6 := hide hown'; have HC6 := hide hc6; have HAT := hide hat; clear hown' hc6 hat hb6)
        go_ret
        have h46 : ∀ g, u6.ownBlock = some g → ∃ cs, Blk w3 g 46 cs := fun g hg => own_blk hOUT.out.own hg
        have hown2 := HOWN6.out
        rw [HM.out] at hown2
        have hnd : S.drop j = s :: S.drop (j + 1) := by
          have := List.getElem?_eq_some_iff.1 HX.out
          rw [← this.2]
          exact List.drop_eq_getElem_cons this.1
        refine ⟨v', P ++ [(panAns, .slice none 0 0)], F, rfl, ?_, ?_, ?_⟩
        · exact OutRow.more (a := panAns) (c := 0) hOUT.out SliceIs.none_ hown2 HC6.out (fun i cs hb h => by
            obtain ⟨cs', hb'⟩ := h46 i h
            exact hb.ne_ hb' (by decide) rfl)
        · rw [HR.out.eq, hnd, Mach.outs_none HST.out, List.map_append]; rfl
        · exact HC3.out.trans HC6.out (fun i _ h => by
            have := (hOUT.out.own.lt i h).1
            show M.B ≤ i
            omega)
    · have hjk : j = k := by omega
      have hlen := HS.out.1
      go_wp2
      go_ret
      refine ⟨_, P, F, rfl, HR.out.out, ?_, HR.out.chg⟩
      have := HR.out.eq
      rw [List.drop_eq_nil_of_le (by omega)] at this
      rw [this]; simp [Mach.outs]
end Go.Proofs.Ytammpllfmbmdmaa
