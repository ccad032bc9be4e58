/- The walk of impl.run, for steps none of which panics, with the machine's state at the end. Printed by gen_run3.py. -/
import Derived.Test.YtammpllfmbmdmaaLw
namespace Go.Proofs.Ytammpllfmbmdmaa
open Go.RowKit

theorem okF_at {σ : Type} {f : σ → StepD → σ × Option AnsD} {s : StepD} : ∀ {S : List StepD} {x : σ} {j : Nat}, okF f x S → S[j]? = some s → (f (stF f x (S.take j)) s).2.isSome
  | [], _, _, _, h => by simp at h
  | t :: S, x, 0, h, hj => by
    have : t = s := by simpa using hj
    subst this
    exact h.1
  | t :: S, x, j + 1, h, hj => okF_at (S := S) (j := j) h.2 (by simpa using hj)

/-- What run hands back, and where the machine stands. -/
def Ran2 {σ : Type} (M : Mach σ) (x : σ) (S : List StepD) (w : World) (e : Ending) (w' : World) : Prop :=
  ∃ v P F, e = .returned v ∧ OutRow w' (Free w' F) 46 w.heap.size v P ∧ P.map (·.1) = M.outs x S ∧ Chg (fun i => M.B ≤ i) w w' ∧ M.Inv w' (stF M.stp x S) F

structure RunJ {σ : Type} (M : Mach σ) (x0 : σ) (S : List StepD) (w wr : World) (fb j : Nat) (v : Value) (x : σ) (F : Nat → Prop) (P : List (AnsD × Value)) : Prop extends RunI M x0 S w wr fb j v x F P where
  st : stF M.stp x0 (S.take j) = x

set_option maxHeartbeats 1000000 in
set_option maxRecDepth 100000 in
theorem run_inv {σ : Type} (M : Mach σ) (hM : M.Ok) (x0 : σ) (F0 : Nat → Prop) (A : Option Addr) (k c : Nat) (S : List StepD) (w : World) (hi : M.Inv w x0 F0) (hs : StepsIn w (fun i => i < M.B) A k S) (hk : k ≤ 2147483647) (hgood : M.allGood x0 S) (hok : okF M.stp x0 S) :
    Calls Try.prog 26 #[.slice A k c, .func (.func M.id) #[] M.caps] w (Ran2 M x0 S w) := by
  have hmf : ∀ (fn : Fn) (first cap : Array Value) (w : World), (Instr.makeFunc fn first cap).run Try.prog w = .ok (.func fn first cap) w := fun _ _ _ _ => rfl
  obtain ⟨i0, hinf, hz0, hz1, hz2⟩ := info_parts info46
  have HI0 : Hid (RunI M x0 S w (w.alloc (.cells #[.func (.func M.id) #[] M.caps] 75)) w.heap.size 0 (.slice none 0 0) x0 F0 []) := by
    have hb : Below w.heap.size w (w.alloc (.cells #[.func (.func M.id) #[] M.caps] 75)) := (Below.refl _ _).alloc (Nat.le_refl _) _
    refine ⟨M.keep hi (Chg.ofBelow hb (fun _ => False)) (fun _ _ h => h), ⟨World.ownsRow_nil _ _ _ _, fun p hp => by cases hp⟩, rfl, rfl, (fun g hg => by cases hg), Chg.ofBelow hb _, Blk.new _ _ _, (fun h => by have := (M.lt hi _ h).2; omega), hgood⟩
  have HS := hide hs
  have hM' := hide hM
  have HOK := hide hok
  clear hi hs hM hgood hok
  go_enter Try.func26, Try.ntmps26
  go_wp2
  go_loopw [6, 13] (fun v i wr => ∃ (j : Nat) (x : σ) (F : Nat → Prop) (P : List (AnsD × Value)), j ≤ k ∧ i = .int .i64 j ∧ RunJ M x0 S w wr w.heap.size j v x F P) (fun _ i _ => k - (intOf i).toNat)
  case atStart => exact ⟨0, x0, F0, [], Nat.zero_le _, rfl, ⟨HI0.out, rfl⟩⟩
  case round =>
    obtain ⟨j, x, F, P, hj, rfl, hr⟩ := hrel
    have HR := hide hr
    clear hr
    by_cases hlt : j < k
    · have hst := HS.out.chg HR.out.chg (fun i _ hi h => by omega)
      obtain ⟨ad, s, LA, lc, rfl, hx, hst⟩ := hst.2 j hlt
      have HX := hide hx
      have HSL := hide (hst.sl.more (K' := fun i => i < wr.heap.size) (fun _ hi _ => hi))
      obtain ⟨c0, c1, c2, c3, c4, c5, c6, c7⟩ := And.intro hst.c0 (And.intro hst.c1 (And.intro hst.c2 (And.intro hst.c3 (And.intro hst.c4 (And.intro hst.c5 (And.intro hst.c6 hst.c7))))))
      clear hx hst
      have hb1 : Below wr.heap.size wr (wr.alloc (.cells (s.cells (.slice LA s.list.length lc)) 29)) := (Below.refl _ _).alloc (Nat.le_refl _) _
      have hnd0 : S.drop j = s :: S.drop (j + 1) := by
        have := List.getElem?_eq_some_iff.1 HX.out
        rw [← this.2]
        exact List.drop_eq_getElem_cons this.1
      have hgd0 := HR.out.gd
      rw [hnd0] at hgd0
      have HGD := hide hgd0
      clear hnd0 hgd0
      have hcall := one_any M hM'.out x F s LA lc w.heap.size (wr.alloc (.cells (s.cells (.slice LA s.list.length lc)) 29)) HGD.out.1 (M.keep HR.out.inv (Chg.ofBelow hb1 (fun _ => False)) (fun _ _ h => h)) ((HSL.out.below hb1).more (fun _ _ hi => Nat.lt_of_lt_of_le hi hb1.size)) (HR.out.fn.alloc _)
      have HB1 := hide hb1
      clear hb1
      unfold StepD.cells at hcall HB1
      go_wp2_with fail
      refine hcall.mono ?_
      clear hcall c0 c1 c2 c3 c4 c5 c6 c7
      have hszW : Hid ((wr.alloc (.cells #[.int .i64 s.what, .int .i64 s.which, .int .i64 s.index, .int .i64 s.bit, .int .i64 s.n, .int .i64 s.key, .int .i64 s.value, .slice LA s.list.length lc] 29)).heap.size = wr.heap.size + 1) := by show _ = _; simp
      generalize hW : wr.alloc (.cells #[.int .i64 s.what, .int .i64 s.which, .int .i64 s.index, .int .i64 s.bit, .int .i64 s.n, .int .i64 s.key, .int .i64 s.value, .slice LA s.list.length lc] 29) = W at *
      clear hW
      rintro e w3 (⟨a, RA, rc, F', hst, hpn, rfl, hsl, hinv, hF', hcg⟩ | ⟨hst, hcg, rfl⟩)
      · have hO3 : OutRow w3 (Free w3 F') 46 w.heap.size u6 P := (HR.out.out.step (Chg.ofBelow HB1.out F) (fun i h => Or.inl h) HR.out.apart).step hcg hF' HR.out.apart
        have hap : ∀ g, u6.ownBlock = some g → ¬ F' g := fun g hg h => (hF' g h).elim (HR.out.apart g hg) (fun h => by
          have h1 := (HR.out.out.own.lt g hg).2
          have h2 := hszW.out
          omega)
        have hfn : Blk w3 w.heap.size 75 #[.func (.func M.id) #[] M.caps] := (HR.out.fn.below HB1.out HR.out.fn.lt).chg hcg HR.out.fnF
        have hfF : ¬ F' w.heap.size := fun h => (hF' _ h).elim HR.out.fnF (fun h => by
          have h1 := HR.out.fn.lt
          have h2 := hszW.out
          omega)
        have hc3 : Chg (fun i => M.B ≤ i) w w3 := HR.out.chg.trans ((Chg.ofBelow HB1.out F).trans hcg (fun _ _ h => h)) (fun i _ h => (M.lt HR.out.inv i h).1)
        have hsz3 : wr.heap.size ≤ w3.heap.size := Nat.le_trans HB1.out.size hcg.size
        have hOUT := hide hO3
        have HAP := hide hap
        have HFN := hide hfn
        have HFF := hide hfF
        have HC3 := hide hc3
        have HST := hide hst
        have HPN := hide hpn
        have HSLa := hide hsl
        have HINV := hide hinv
        have hws : Hid (w.heap.size ≤ wr.heap.size) := HR.out.chg.size
        obtain ⟨m, hm⟩ : ∃ m, m = P.length := ⟨_, rfl⟩
        have hmj : m = j := by rw [hm]; exact HR.out.len
        have hown := hO3.own
        rw [← hm] at hown
        have HM := hide hm
        clear hO3 hap hfn hfF hc3 hst hsl hinv hcg hF' hm
        unfold AnsD.cells
        rw [hpn]
        go_wp2_with (at_builtin; go_must (refine wpList_append_ans rfl _ _ 37 rfl 46 i0 _ Try.underlying37 hinf hz0 hz1 hz2 rfl w3 w.heap.size u6 m _ hown a.n a.ok RA a.list.length rc false rfl rfl (by omega) (by have := hws.out; omega) ?_); intro v' w6 hown' hc6 hat hb6; have hk3 : w6.cell? ⟨w3.heap.size, 3, none⟩ = some (.bool false) := (by rw [hb6.cell]; rfl); have HOWN6 := hide hown'; have HC6 := hide hc6; have HAT := hide hat; clear hown' hc6 hat hb6)
        go_roundw
        case measure => simp [intOf]; omega
        case rel =>
          have h46 : ∀ g, u6.ownBlock = some g → ∃ cs, Blk w3 g 46 cs := fun g hg => own_blk hOUT.out.own hg
          have hown2 := HOWN6.out
          rw [HM.out] at hown2
          rw [← HPN.out] at hown2
          have hnd : S.drop j = s :: S.drop (j + 1) := by
            have := List.getElem?_eq_some_iff.1 HX.out
            rw [← this.2]
            exact List.drop_eq_getElem_cons this.1
          refine ⟨j + 1, (M.stp x s).1, F', P ++ [(a, .slice RA a.list.length rc)], by omega, by go_num, ⟨?_, ?_, ?_, ?_, ?_, ?_, ?_, ?_, ?_⟩, ?_⟩
          · exact M.keep HINV.out HC6.out (fun i hi h => HAP.out i h hi)
          · exact OutRow.more hOUT.out HSLa.out hown2 HC6.out (fun i cs hb h => by
              obtain ⟨cs', hb'⟩ := h46 i h
              exact hb.ne_ hb' (by decide) rfl)
          · rw [List.length_append, ← HM.out]; simp; omega
          · rw [HR.out.eq, hnd, Mach.outs_some HST.out, List.map_append, List.append_assoc]; rfl
          · intro g hg
            rcases HAT.out with h | h
            · exact HAP.out g (h ▸ hg)
            · rw [h] at hg
              injection hg with hg
              intro hF
              have := (M.lt HINV.out g hF).2
              omega
          · exact HC3.out.trans HC6.out (fun i _ h => by
              have := (hOUT.out.own.lt i h).1
              show M.B ≤ i
              omega)
          · refine HFN.out.chg HC6.out (fun h => ?_)
            obtain ⟨cs', hb'⟩ := h46 _ h
            exact HFN.out.ne_ hb' (by decide) rfl
          · exact HFF.out
          · exact HGD.out.2 (by rw [HST.out]; rfl)
          · rw [show S.take (j + 1) = S.take j ++ [s] by rw [List.take_add_one, HX.out]; rfl, stF_snoc, HR.out.st]
      · have h1 := okF_at HOK.out HX.out
        rw [HR.out.st, hst] at h1
        cases h1
    · have hjk : j = k := by omega
      have hlen := HS.out.1
      go_wp2
      go_ret
      refine ⟨_, P, F, rfl, HR.out.out, ?_, HR.out.chg, ?_⟩
      rotate_left
      · have h1 := HR.out.inv
        rw [← HR.out.st, List.take_of_length_le (by omega)] at h1
        exact h1
      have := HR.out.eq
      rw [List.drop_eq_nil_of_le (by omega)] at this
      rw [this]; simp [Mach.outs]
end Go.Proofs.Ytammpllfmbmdmaa
