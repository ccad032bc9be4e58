/- The walk of slices.Clone of bytes and of impl.Bits. No condition but sizes. -/
import Derived.Test.YtammpllfmbmdmaaBd
import Derived.Test.YtammpllfmbmdmaaRun3
namespace Go.Proofs.Ytammpllfmbmdmaa
open Go.RowKit

/-- 'append(T{}, xs...)' in a plain region. -/
theorem wpList_append0 {w : World} {ops : Array Oper} {rest : List Oper} {o : Oper} {a : Act} {Q : Exit → Act → World → Prop} (hgd : o.guard = none) (s x : Operand) (t : TypeId)
    (ho : o.op = .call { callee := .builtin .append, args := #[s, x], argTypes := #[t, t] })
    (base : Nat) (e : TypeId) (i : TypeInfo) (z : Value) (size bytes : Nat) (ht : Try.prog.underlying t = some (.slice e)) (hi : Try.prog.info? e = some i) (hz : i.zero = some z) (hs : i.size = size) (hby : i.bytes = bytes) (hzs : z.cells.size = size) (hsp : 0 < size)
    (g : Nat) (hsv : a.eval s = .slice (some ⟨g, 0, none⟩) 0 0) (hg : Blk w g e #[]) (hb : base ≤ g) (A : Option Addr) (m c : Nat) (xs : List Value) (Kr : Nat → Prop) (hxv : a.eval x = .slice A m c) (hr : Reads w Kr size A m xs) (h1 : ∀ u ∈ xs, u.oneCell' = true) (hnil : A = none → c = 0) (hm : m ≤ maxLen) (hbytes : m * bytes ≤ 140737488355328)
    (h : ∀ v' w', w'.ownsRow base e size v' m xs → Gr w w' → wpList Try.prog ops Q rest (a.put o.dst v') w') : wpList Try.prog ops Q (o :: rest) a w := by
  refine wpList_plain hgd fun K hK => ?_
  obtain ⟨v', w', h2, h3, h4, _⟩ := run_append0 w base t o.type e i z size bytes ht hi hz hs hby hzs hsp g hg hb A m c xs Kr hr h1 hnil hm hbytes
  unfold Oper.wp execOp
  simp only [ho, resolve, invoke, builtin, Sem.run_bind, Sem.run_pure, Result.andThen_ok, List.map_toArray, List.map_cons, List.map_nil, hsv, hxv, h2]
  exact hK _ _ (h v' w' h3 h4)

theorem bytes_one {D : List Nat} : ∀ u ∈ bytes D, u.oneCell' = true := fun u hu => by
  obtain ⟨x, _, rfl⟩ := List.mem_map.1 hu
  rfl

set_option maxHeartbeats 1000000 in
set_option maxRecDepth 100000 in
theorem clone5_any (K : Nat → Prop) (A : Option Addr) (n c : Nat) (D : List Nat) (w : World) (hr : Reads w K 1 A n (bytes D)) (hnil : A = none → n = 0 ∧ c = 0) (hn : n ≤ 549755813888) :
    Calls Try.prog 50 #[.slice A n c] w fun e w' => ∃ v', e = .returned v' ∧ w'.ownsRow w.heap.size 5 1 v' n (bytes D) ∧ Gr w w' := by
  cases A with
  | none =>
    obtain ⟨rfl, rfl⟩ := hnil rfl
    have hl : D = [] := List.eq_nil_of_length_eq_zero (by have := hr.1; simpa using this)
    subst hl
    clear hr hnil
    have hnl : ∀ W : World, (binOp .eql 43 (.slice none 0 0) (.slice none 0 0)).run Try.prog W = .ok (.bool true) W := fun W => by
      rw [Lib.run_eql_slice_nil (h := Try.underlying43)]; rfl
    go_enter Try.func50, Try.ntmps50
    go_wp2
    go_ret
    exact ⟨_, rfl, World.ownsRow_nil _ _ _ _, Chg.refl _ _⟩
  | some ad =>
    have hnl : ∀ W : World, (binOp .eql 43 (.slice (some ad) n c) (.slice none 0 0)).run Try.prog W = .ok (.bool false) W := fun W => by
      rw [Lib.run_eql_slice_nil (h := Try.underlying43)]; rfl
    obtain ⟨i0, hi5, hz0, hz1, hz2⟩ := info_parts info5
    have HB0 : Hid (Gr w (w.alloc (.cells #[] 5))) := (Chg.refl _ w).alloc _
    have HR : Hid (Reads (w.alloc (.cells #[] 5)) K 1 (some ad) n (bytes D)) := hr.below HB0.out.below
    clear hr hnil
    go_enter Try.func50, Try.ntmps50
    go_wp2_with
      (at_builtin
       go_must (refine wpList_append0 rfl _ _ 43 rfl w.heap.size 5 i0 (.int .u8 0) 1 1 Try.underlying43 hi5 hz0 hz1 hz2 rfl (by decide) w.heap.size rfl (Blk.new _ _ _) (Nat.le_refl _) (some ad) n c (bytes D) K rfl HR.out bytes_one (fun h => by cases h) (by unfold maxLen; omega) (by omega) ?_)
       intro v1 w1 hO hC
       have HO := hide hO
       have HC := hide hC
       clear hO hC)
    obtain ⟨A', c', rfl, _⟩ := own_reads HO.out
    go_ret
    exact ⟨_, rfl, HO.out, HB0.out.trans HC.out (fun _ _ h => h)⟩

theorem okF_stepB : ∀ (S : List StepD) (l : List Int), okF stepB l S
  | [], _ => trivial
  | s :: S, l => ⟨by unfold stepB; split <;> (try split) <;> (try split) <;> (try split) <;> (try split) <;> rfl, okF_stepB S _⟩

/-- What impl.Bits hands back. -/
def BitsOut (L : List AnsD) (l : List Int) (w : World) (e : Ending) (w' : World) : Prop :=
  ∃ A c v D, e = .returned (.tuple #[.slice A L.length c, v, .int .i64 l.length]) ∧ L.length ≤ maxLen ∧ AnsIn w' A L.length L ∧ w'.ownsRow w.heap.size 5 1 v D.length (bytes D) ∧ VecIs D l ∧ (∀ b ∈ D, b < 256) ∧ l.length ≤ 10000 ∧ Below w.heap.size w w'

set_option maxHeartbeats 1000000 in
theorem newvec_any (v : Value) (n : Int) (w : World) (A : Option Addr) (m c : Nat) (hv : v = .slice A m c) :
    Calls Try.prog 49 #[v, .int .i64 n] w fun e w' => e = .returned (.pointer (some ⟨w.heap.size, 0, none⟩)) ∧ w' = w.alloc (.cells #[v, .int .i64 n] 121) := by
  subst hv
  go_enter Try.func49, Try.ntmps49
  go_wp2
  go_ret
  exact ⟨rfl, rfl⟩

theorem stepB_len (l : List Int) (s : StepD) (h : goodB l s) : (stepB l s).1.length ≤ 10000 := by
  obtain ⟨hl, h⟩ := h
  unfold stepB
  split
  · simp; omega
  · split
    · simp; omega
    · split
      · simp; omega
      · split
        · have := List.length_eraseIdx_le l s.index.toNat
          show (l.eraseIdx s.index.toNat).length ≤ _
          omega
        · split <;> (show l.length ≤ _; omega)

theorem stF_len : ∀ (S : List StepD) (l : List Int), l.length ≤ 10000 → goodF stepB goodB l S → (stF stepB l S).length ≤ 10000
  | [], _, h, _ => h
  | s :: S, l, _, h => stF_len S _ (stepB_len l s h.1) (h.2 (okF_stepB [s] l).1)

set_option maxHeartbeats 1000000 in
set_option maxRecDepth 100000 in
theorem bits_walk (K : Nat → Prop) (A0 : Option Addr) (n0 c0 : Nat) (D0 : List Nat) (l0 : List Int) (A : Option Addr) (k c : Nat) (S : List StepD) (w : World) (hr : Reads w K 1 A0 n0 (bytes D0)) (hnil : A0 = none → n0 = 0 ∧ c0 = 0) (hn : n0 ≤ 10000) (hlt : ∀ b ∈ D0, b < 256) (hv : VecIs D0 l0) (hl0 : l0.length ≤ 10000)
    (hs : StepsIn w (fun _ => True) A k S) (hk : k ≤ 2147483647) (hgood : goodF stepB goodB l0 S) :
    Calls Try.prog 18 #[.slice A0 n0 c0, .int .i64 l0.length, .slice A k c] w (BitsOut (outF stepB l0 S) (stF stepB l0 S) w) := by
  have hmf : ∀ (fn : Fn) (first cap : Array Value) (w : World), (Instr.makeFunc fn first cap).run Try.prog w = .ok (.func fn first cap) w := fun _ _ _ _ => rfl
  have hD0 : D0.length = n0 := by have := hr.1; simpa using this
  have hcl := clone5_any K A0 n0 c0 D0 w hr hnil (by omega)
  have HS := hide hs.old
  have HG := hide hgood
  have HV := hide hv
  have HLT := hide hlt
  have HL0 := hide hl0
  have HK := hide hk
  have HD0 := hide hD0
  clear hs hgood hv hlt hr hnil hl0 hk hD0
  go_enter Try.func18, Try.ntmps18
  go_wp2_with fail
  refine hcl.mono ?_
  clear hcl
  rintro e w1 ⟨v1, rfl, ho1, hg1⟩
  obtain ⟨A1, c1, rfl, _⟩ := own_reads ho1
  have HO1 := hide ho1
  have HG1 := hide hg1
  have hs1 := hg1.size
  clear ho1 hg1
  go_wp2_with fail
  refine (newvec_any _ _ w1 A1 n0 c1 rfl).mono ?_
  rintro e w2 ⟨rfl, rfl⟩
  go_wp2_with fail
  have hgr : Gr w1 ((w1.alloc (.cells #[.slice A1 n0 c1, .int .i64 l0.length] 121)).alloc (.cells #[.pointer (some ⟨w1.heap.size, 0, none⟩)] 78)) := ((Chg.refl _ w1).alloc _).alloc _
  have hvv : Blk ((w1.alloc (.cells #[.slice A1 n0 c1, .int .i64 l0.length] 121)).alloc (.cells #[.pointer (some ⟨w1.heap.size, 0, none⟩)] 78)) (w1.heap.size + 1) 78 #[.pointer (some ⟨w1.heap.size, 0, none⟩)] := Blk.new_ _ _ _ (by simp)
  have hbl : Blk ((w1.alloc (.cells #[.slice A1 n0 c1, .int .i64 l0.length] 121)).alloc (.cells #[.pointer (some ⟨w1.heap.size, 0, none⟩)] 78)) w1.heap.size 121 #[.slice A1 n0 c1, .int .i64 l0.length] := (Blk.new_ _ _ _ rfl).alloc _
  generalize hW : (w1.alloc (.cells #[.slice A1 n0 c1, .int .i64 l0.length] 121)).alloc (.cells #[.pointer (some ⟨w1.heap.size, 0, none⟩)] 78) = W at *
  have hszW : W.heap.size = w1.heap.size + 2 := by rw [← hW]; simp
  have HSW := hide hszW
  clear hW hszW
  have hbv : BV W w.heap.size w1.heap.size (.slice A1 n0 c1) l0.length D0 := by
    refine ⟨hbl, ?_, HLT.out⟩
    rw [HD0.out]
    exact hgr.own _ _ _ _ _ _ HO1.out
  have hinv : BInv w.heap.size (w1.heap.size + 1) W l0 (fun i => i = w1.heap.size + 1 ∨ i = w1.heap.size ∨ (Value.slice A1 n0 c1).ownBlock = some i) := by
    refine ⟨⟨w1.heap.size, .slice A1 n0 c1, D0, hvv, hbv, HV.out, Or.inr (Or.inl rfl), fun i hi => Or.inr (Or.inr hi)⟩, Or.inl rfl, fun i hi => ?_⟩
    have := HSW.out
    rcases hi with rfl | rfl | hi
    · omega
    · omega
    · have := HO1.out.lt i hi
      omega
  have hbW : Below w.heap.size w W := (HG1.out.trans hgr (fun _ _ h => h)).toBelow
  have hsW : StepsIn W (fun i => i < w.heap.size) A k S := HS.out.keep hbW.size (fun p hp _ => hbW.cell hp)
  have hrun := run_inv (machB w.heap.size (w1.heap.size + 1)) (machB_ok _ _) l0 _ A k c S W hinv hsW HK.out (Mach.good_eq _ _ _ HG.out) (okF_stepB S l0)
  have HBW := hide hbW
  clear hinv hsW hbv hgr hvv hbl hbW
  refine hrun.mono ?_
  clear hrun
  rintro e w3 ⟨v, P, F', rfl, hout, hmap, hcg, hI3⟩
  obtain ⟨RA, rc, rfl, hm, hans⟩ := hout.ansIn
  obtain ⟨⟨g, v3, D, hvv3, hbv3, hvec, _, _⟩, _, _⟩ := hI3
  have hbv3 : BV w3 w.heap.size g v3 (stF stepB l0 S).length D := hbv3
  have hvec : VecIs D (stF stepB l0 S) := hvec
  obtain ⟨A3, c3, rfl, hrd3⟩ := own_reads hbv3.row
  have hlen3 := stF_len S l0 HL0.out HG.out
  have hvs := hvec.size
  have HBV3 : Hid (BV w3.drew w.heap.size g (.slice A3 D.length c3) (stF stepB l0 S).length D) := ⟨Blk.drew_ hbv3.blk, own_drew hbv3.row, hbv3.lt⟩
  have HDR : Hid (Gr w3 w3.drew) := (Chg.refl _ w3).drew
  have HVV3 := hide hvv3
  have HVEC := hide hvec
  have HANS := hide hans
  have HMAP := hide hmap
  have HCG := hide hcg
  have HRD := hide (hrd3.chg HDR.out (fun _ _ _ h => h))
  have HM := hide hm
  have HLEN := hide hlen3
  have k0 : w3.cell? ⟨w1.heap.size + 1, 0, none⟩ = some (.pointer (some ⟨g, 0, none⟩)) := by rw [hvv3.cell]; rfl
  have hnil3 : A3 = none → D.length = 0 ∧ c3 = 0 := fun h => by
    have h1 := own_nil hbv3.row h
    have h2 := own_cap hbv3.row
    omega
  have HNIL := hide hnil3
  clear hout hvv3 hbv3 hvec hans hmap hcg hrd3 hm hlen3 hvs hnil3
  generalize stF stepB l0 S = l at *
  have hDn : D.length ≤ 549755813888 := by have h1 := HVEC.out.size; have h2 := HLEN.out; omega
  go_wp2_with fail
  go_region_law
    ((first
      | (go_simp
         go_at_call 60
         refine (bv_bytes w.heap.size g _ _ D _ HBV3.out).mono ?_
         rintro e w' ⟨rfl, rfl⟩)
      | (go_simp
         go_at_call 57
         refine (bv_length w.heap.size g _ _ D _ HBV4.out).mono ?_
         rintro e w' ⟨rfl, hw9⟩
         rw [hw9]
         clear hw9)
      | (go_simp
         go_at_call 57
         refine (bv_length w.heap.size g _ _ D _ HBV3.out).mono ?_
         rintro e w' ⟨rfl, rfl⟩)
      | (go_simp
         go_at_call 50
         refine (clone5_any _ A3 D.length c3 D _ HRD.out HNIL.out hDn).mono ?_
         rintro e w4 ⟨v4, rfl, hO4, hG4⟩
         have HO4 := hide hO4
         have HG4 := hide hG4
         have HBV4 := hide (HBV3.out.chg hG4 (fun h => h) (fun _ _ h => h))
         have k4 : w4.cell? ⟨w1.heap.size + 1, 0, none⟩ = some (.pointer (some ⟨g, 0, none⟩)) := (hG4.cell (by exact HVV3.out.lt)).trans k0
         clear hO4 hG4)
      | fail))
  all_goals
    obtain ⟨A4, c4, rfl, _⟩ := own_reads HO4.out
    go_wp2
    refine bodyPost_ret (v := .tuple #[.slice RA P.length rc, .slice A4 D.length c4, .int .i64 l.length]) ?_ rfl ?_
    · simp [results, Try.f18, go_sem]
    · have hb4 : Below w.heap.size w w4 := (HBW.out.trans (HCG.out.below HBW.out.size (fun i hi => hi))).trans ((HDR.out.trans HG4.out (fun _ _ h => h)).toBelow.mono (Nat.le_trans HBW.out.size HCG.out.size))
      have hl : P.length = (outF stepB l0 S).length := by
        rw [← List.length_map (f := (·.1)), HMAP.out, Mach.outs_eq]; rfl
      have ha : AnsIn w4 RA (outF stepB l0 S).length (outF stepB l0 S) := by
        have h1 := HANS.out.below (HDR.out.trans HG4.out (fun _ _ h => h)).toBelow
        rw [HMAP.out, Mach.outs_eq, hl] at h1
        exact h1
      refine ⟨RA, rc, _, D, by rw [hl], by have := HM.out; omega, ha, ?_, HVEC.out, HBV3.out.lt, HLEN.out, hb4⟩
      exact own_base HO4.out (Nat.le_trans HBW.out.size HCG.out.size)
end Go.Proofs.Ytammpllfmbmdmaa
