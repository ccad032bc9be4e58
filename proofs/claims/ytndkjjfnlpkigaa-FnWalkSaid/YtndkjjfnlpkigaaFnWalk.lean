/- The walk of the law FnWalk: it returns true for every graph and all nodes. -/
import Derived.Test.YtndkjjfnlpkigaaIwalk
import Derived.Test.YtndkjjfnlpkigaaWalked
import Derived.Test.YtndkjjfnlpkigaaFnPath
import Derived.Sort.AtCall
namespace Go.Proofs.Ytndkjjfnlpkigaa
open Go.RowKit

theorem own_cap {w : World} {base : Nat} {e : TypeId} {n : Nat} {A : Option Addr} {c : Nat} {xs : List Value} (h : w.ownsRow base e 1 (.slice A n c) n xs) : n ≤ c ∧ c ≤ maxLen := by
  obtain ⟨_, h2⟩ := h
  rcases h2 with ⟨h3, h4⟩ | ⟨g, cap, cur, hv, _, _, h5, h6, _⟩
  · injection h3 with _ _ h3; subst h3; exact ⟨by omega, by simp [maxLen]⟩
  · injection hv with _ _ hv; subst hv; exact ⟨h5, h6⟩

set_option maxHeartbeats 2000000 in
theorem fnWalk_main (br : Bool) (A : Option Addr) (kk c : Nat) (G : List (List Int)) (a z : Int) (w : World) (hg : GrIn w (fun _ => True) A kk G) (hk : kk ≤ maxLen) (hfit : fitsB kk G = true) (h30 : kk ≤ 30) :
    Calls Try.prog 5 #[.bool br, .slice A kk c, .int .i64 a, .int .i64 z] w fun e w' => e = .returned (.bool true) ∧ Below w.heap.size w w' := by
  have HG := hide hg
  have hk2 := hk
  unfold maxLen at hk2
  have hfl : Hid (G.flatten.length < 1099511627776) := by
    have h1 := flatten_le (fitsB_out hfit)
    have h2 : G.length ≤ 30 := by have := hg.1; omega
    have h3 : G.length * 2147483647 ≤ 30 * 2147483647 := Nat.mul_le_mul_right _ h2
    show G.flatten.length < 1099511627776
    omega
  have HF := hide (fitsB_out hfit)
  clear hg
  go_enter Try.func5, Try.ntmps5
  go_wp2_with fail
  refine (fits6_any _ A kk c G _ HG.out hk).mono ?_
  rw [hfit]
  rintro e w1 ⟨rfl, rfl⟩
  go_wp2_with fail
  refine (implwalk_any br _ A kk c G a z HF.out hfl.out w HG.out).mono ?_
  rintro e w1 ⟨r, v, ord, rfl, hown, hend, hb⟩
  obtain ⟨OA, oc, rfl, hr⟩ := own_reads hown
  obtain ⟨hoc, hocm⟩ := own_cap hown
  unfold maxLen at hocm
  have HR := hide hr
  have HB := hide hb
  have HEND := hide hend
  have HG1 : Hid (GrIn w1 (fun i => i < w.heap.size) A kk G) := HG.out.old.keep hb.size (fun p hp _ => hb.cell hp)
  have hsz := hb.size
  clear hr hb hend hown
  go_wp2_with fail
  refine (far_any _ A kk c G a HF.out hfl.out w1 HG1.out (fun i hi => by omega)).mono ?_
  rintro e w2 ⟨k, v4, v5, hkl, rfl, g, h, cg, ch, rfl, rfl, _, hN, hFF, hb2⟩
  have hfacts := HEND.out.facts hkl
  have hgood := stage_good G a k
  have hup : (br = true → ∀ i x y, ord[i]? = some x → ord[i + 1]? = some y → ¬ distL (stage G a k).1 (stage G a k).2 y < distL (stage G a k).1 (stage G a k).2 x) := fun hb i x y hx hy => dist_upw (hfacts.2.2.2.2.2.2 hb) hx hy
  have hdz : Hid (decide (0 ≤ distL (stage G a k).1 (stage G a k).2 z) = r) := by
    show _ = _
    rw [distL_nonneg hgood, hfacts.2.2.2.1]
  have hnl : (stage G a k).1.length ≤ 1099511627776 := by
    have h1 := nodup_le _ (a :: G.flatten) hgood.nodup hgood.mem
    have h2 := hfl.out
    rw [List.length_cons] at h1; omega
  have hol : Hid (ord.length ≤ (stage G a k).1.length) := by
    refine nodup_le _ _ hfacts.2.1 ?_
    rcases HEND.out with ⟨_, o, q, hw, hn, rfl⟩ | ⟨_, hw⟩
    · intro x hx
      rcases List.mem_append.1 hx with hx | hx
      · exact hw.inN hkl x (Or.inl hx)
      · rw [List.mem_singleton.1 hx]; exact hw.inN hkl z (Or.inr (List.mem_cons_self ..))
    · exact fun x hx => hw.inN hkl x (Or.inl hx)
  obtain ⟨hled, hnd, hne, hrd, hlast, hall, hpre⟩ := hfacts
  have HLED := hide hled
  have HND := hide hnd
  have HLAST := hide hlast
  have HALL := hide hall
  have hop : 0 < ord.length := List.length_pos_iff.2 hne
  have hom : ord.length ≤ 1099511627776 := Nat.le_trans hol.out hnl
  have hrN := Reads.of_own hN
  have hrF : Reads w2 (fun i => w1.heap.size ≤ i) 1 (some ⟨h, 0, none⟩) (stage G a k).1.length (ints (stage G a k).2) := Reads.of_own hFF
  have HO2 := hide (HR.out.below hb2)
  have hG2 : GrIn w2 (fun i => i < w.heap.size) A kk G := HG1.out.keep hb2.size (fun p hp _ => hb2.cell (by omega))
  have hs2 := hb2.size
  have hW3 : ∀ W : World, W = (w2.alloc (.cells #[.slice (some ⟨g, 0, none⟩) (stage G a k).1.length cg] 26)).alloc (.cells #[.slice (some ⟨h, 0, none⟩) (stage G a k).1.length ch] 26) →
      Below w.heap.size w W ∧ GrIn W (fun i => i < w.heap.size) A kk G ∧ Reads W (fun i => w.heap.size ≤ i) 1 OA ord.length (ints ord) ∧ Reads W (fun i => w1.heap.size ≤ i) 1 (some ⟨g, 0, none⟩) (stage G a k).1.length (ints (stage G a k).1) ∧ Reads W (fun i => w1.heap.size ≤ i) 1 (some ⟨h, 0, none⟩) (stage G a k).1.length (ints (stage G a k).2) ∧
      W.cell? ⟨w2.heap.size, 0, none⟩ = some (.slice (some ⟨g, 0, none⟩) (stage G a k).1.length cg) ∧ W.cell? ⟨w2.heap.size + 1, 0, none⟩ = some (.slice (some ⟨h, 0, none⟩) (stage G a k).1.length ch) := by
    rintro W rfl
    have hB : Below w2.heap.size w2 ((w2.alloc (.cells #[.slice (some ⟨g, 0, none⟩) (stage G a k).1.length cg] 26)).alloc (.cells #[.slice (some ⟨h, 0, none⟩) (stage G a k).1.length ch] 26)) := ((Below.refl _ _).alloc (Nat.le_refl _) _).alloc (by simp) _
    refine ⟨(HB.out.trans (hb2.mono hsz)).trans (hB.mono (by omega)), hG2.keep hB.size (fun p hp _ => hB.cell hp), HO2.out.below hB, hrN.below hB, hrF.below hB, ?_, ?_⟩
    · have := ((Blk.new w2 26 #[.slice (some ⟨g, 0, none⟩) (stage G a k).1.length cg]).alloc (.cells #[.slice (some ⟨h, 0, none⟩) (stage G a k).1.length ch] 26)).cell 0
      exact this
    · have := (Blk.new_ (w2.alloc (.cells #[.slice (some ⟨g, 0, none⟩) (stage G a k).1.length cg] 26)) 26 #[.slice (some ⟨h, 0, none⟩) (stage G a k).1.length ch] (n := w2.heap.size + 1) (by simp)).cell 0
      exact this
  have HW3 := hide hW3
  have hlen2 : (stage G a k).1.length = (stage G a k).2.length := hgood.len
  have HUP := hide hup
  clear hrN hrF hN hFF hb2 hkl hled hnd hne hlast hall hgood hW3 hG2 hlen2 hrd hpre hup
  generalize hN : (stage G a k).1 = N at *
  generalize hFF : (stage G a k).2 = F at *
  generalize hn : N.length = n at *
  clear hN hFF hn
  go_wp2_with fail
  generalize hW : (w2.alloc (.cells #[.slice (some ⟨g, 0, none⟩) n cg] 26)).alloc (.cells #[.slice (some ⟨h, 0, none⟩) n ch] 26) = W
  obtain ⟨q1, q2, q3, q4, q5, q6, q7⟩ := HW3.out W hW.symm
  have Q1 := hide q1
  have Q3 := hide q3
  clear hW q1 q3
  refine (walked_any _ A kk c G a OA ord.length oc ord W q2 _ Q3.out (by omega) hop hoc (by unfold maxLen; omega) HND.out HLED.out).mono ?_
  rintro e w4 ⟨rfl, rfl⟩
  have hd := fun x => dist_any w2.heap.size (w2.heap.size + 1) _ (some ⟨g, 0, none⟩) (some ⟨h, 0, none⟩) n cg ch N F x W (by omega) q6 q7 q4 q5
  have hdq : ∀ (x : Int) (nq m : Nat), Calls Try.prog 13 #[.int .i64 x, .pointer (some ⟨w2.heap.size, 0, none⟩), .pointer (some ⟨w2.heap.size + 1, 0, none⟩)] (W.drewN (nq + m)) fun e w' => e = .returned (.int .i64 (distL N F x)) ∧ ∃ q, w' = W.drewN (nq + q) := fun x nq m => (dist_any w2.heap.size (w2.heap.size + 1) _ (some ⟨g, 0, none⟩) (some ⟨h, 0, none⟩) n cg ch N F x (W.drewN (nq + m)) (by omega) q6 q7 q4 q5).mono (fun e w' ⟨h1, h2⟩ => ⟨h1, m, h2.symm⟩)
  have hdz1 := hd z
  have HDZ := hdz
  clear hdz q4 q5 q2
  go_wp2_with fail
  refine hdz1.mono ?_
  clear hdz1
  rintro e w4 ⟨rfl, rfl⟩
  generalize hz : distL N F z = dz at *
  obtain ⟨m, hm⟩ : ∃ m, m = ord.length := ⟨_, rfl⟩
  have HM := hide hm
  rw [← hm] at hop hom hol HALL hoc Q3 ⊢
  have HLA : Hid (r = true → ord[m - 1]? = some z) := fun h => by
    have := HLAST.out h
    rw [List.getLast?_eq_getElem?] at this
    rw [HM.out]; exact this
  clear hm hz
  cases r
  · have hz0 : ¬ (0 ≤ dz) := of_decide_eq_false HDZ.out
    obtain rfl : m = n := HALL.out rfl
    have hol' := hol.out
    clear hol
    go_wp2_with fail
    go_loopw [76] (fun i wr => ∃ j nq : Nat, j ≤ m ∧ i = .int .i64 j ∧ wr = W.drewN nq) (fun i _ => m - (intOf i).toNat)
    case atStart => exact ⟨0, 0, Nat.zero_le _, rfl, rfl⟩
    case round =>
      obtain ⟨j, nq, hj, rfl, rfl⟩ := hrel
      by_cases hlt : j < m
      · obtain ⟨ad2, u2, HE, _, hx2, hcell2⟩ := Q3.out.at_ hlt
        obtain ⟨rfl, hjl2⟩ := ints_at hx2
        first | subst HE | (injection HE with HE; subst HE)
        obtain ⟨y, hy⟩ : ∃ y, y = ord.getD j 0 := ⟨_, rfl⟩
        rw [← hy] at hcell2
        have hyj : Hid (ord[j]? = some y) := by show _ = _; rw [hy, List.getD_eq_getElem?_getD, List.getElem?_eq_getElem hjl2]; rfl
        clear hx2 hy
        cases br
        · go_wp2
          go_quiet (fail)
          go_wp2
          go_round
          case rel => exact ⟨j + 1, _, by omega, by go_num, rfl⟩
          case measure => simp [intOf]; omega
        · rcases Nat.eq_zero_or_pos j with rfl | hjp
          · have e0 : ∀ q : Addr, q.add 0 = q := fun _ => rfl
            rw [e0] at hcell2
            clear e0
            go_wp2
            go_quiet (fail)
            go_wp2
            go_round
            case rel => exact ⟨1, _, by omega, by go_num, rfl⟩
            case measure => simp [intOf]; omega
          · obtain ⟨ad3, u3, HE, _, hx3, hcell3⟩ := Q3.out.at_ (show j - 1 < m by omega)
            injection HE with HE
            subst HE
            obtain ⟨rfl, hjl3⟩ := ints_at hx3
            obtain ⟨x, hx⟩ : ∃ x, x = ord.getD (j - 1) 0 := ⟨_, rfl⟩
            rw [← hx] at hcell3
            have hxj : Hid (ord[j - 1]? = some x) := by show _ = _; rw [hx, List.getD_eq_getElem?_getD, List.getElem?_eq_getElem hjl3]; rfl
            have hle : ¬ distL N F y < distL N F x := by have := HUP.out rfl (j - 1) x y hxj.out (by rw [show j - 1 + 1 = j by omega]; exact hyj.out); omega
            have d1 := hdq y nq
            have d2 := hdq x nq
            clear hx3 hx
            go_wp2
            generalize distL N F y = dy at *
            generalize distL N F x = dx at *
            go_quiet (first | (go_at_call_has 13 (Value.int IntKind.i64 y); exact d1 _) | (go_at_call_has 13 (Value.int IntKind.i64 x); exact d2 _))
            go_wp2
            go_round
            case rel => exact ⟨j + 1, _, by omega, by go_num, rfl⟩
            case measure => simp [intOf]; omega
      · go_wp2
        go_ret
        exact ⟨rfl, ((Chg.ofBelow Q1.out (fun _ => False)).drewN _).toBelow⟩
  · have hz0 : 0 ≤ dz := of_decide_eq_true HDZ.out
    obtain ⟨ad, u, rfl, _, hx, hcell⟩ := Q3.out.at_ (show m - 1 < m by omega)
    have hu : u = .int .i64 z := by
      rw [List.getElem?_map, HLA.out rfl] at hx
      simpa using hx.symm
    subst hu
    clear hx
    go_wp2_with fail
    go_loopw [76] (fun i wr => ∃ j nq : Nat, j ≤ m ∧ i = .int .i64 j ∧ wr = W.drewN nq) (fun i _ => m - (intOf i).toNat)
    case atStart => exact ⟨0, 0, Nat.zero_le _, rfl, rfl⟩
    case round =>
      obtain ⟨j, nq, hj, rfl, rfl⟩ := hrel
      by_cases hlt : j < m
      · obtain ⟨ad2, u2, HE, _, hx2, hcell2⟩ := Q3.out.at_ hlt
        obtain ⟨rfl, hjl2⟩ := ints_at hx2
        first | subst HE | (injection HE with HE; subst HE)
        obtain ⟨y, hy⟩ : ∃ y, y = ord.getD j 0 := ⟨_, rfl⟩
        rw [← hy] at hcell2
        have hyj : Hid (ord[j]? = some y) := by show _ = _; rw [hy, List.getD_eq_getElem?_getD, List.getElem?_eq_getElem hjl2]; rfl
        clear hx2 hy
        cases br
        · go_wp2
          go_quiet (fail)
          go_wp2
          go_round
          case rel => exact ⟨j + 1, _, by omega, by go_num, rfl⟩
          case measure => simp [intOf]; omega
        · rcases Nat.eq_zero_or_pos j with rfl | hjp
          · have e0 : ∀ q : Addr, q.add 0 = q := fun _ => rfl
            rw [e0] at hcell2
            clear e0
            go_wp2
            go_quiet (fail)
            go_wp2
            go_round
            case rel => exact ⟨1, _, by omega, by go_num, rfl⟩
            case measure => simp [intOf]; omega
          · obtain ⟨ad3, u3, HE, _, hx3, hcell3⟩ := Q3.out.at_ (show j - 1 < m by omega)
            injection HE with HE
            subst HE
            obtain ⟨rfl, hjl3⟩ := ints_at hx3
            obtain ⟨x, hx⟩ : ∃ x, x = ord.getD (j - 1) 0 := ⟨_, rfl⟩
            rw [← hx] at hcell3
            have hxj : Hid (ord[j - 1]? = some x) := by show _ = _; rw [hx, List.getD_eq_getElem?_getD, List.getElem?_eq_getElem hjl3]; rfl
            have hle : ¬ distL N F y < distL N F x := by have := HUP.out rfl (j - 1) x y hxj.out (by rw [show j - 1 + 1 = j by omega]; exact hyj.out); omega
            have d1 := hdq y nq
            have d2 := hdq x nq
            clear hx3 hx
            go_wp2
            generalize distL N F y = dy at *
            generalize distL N F x = dx at *
            go_quiet (first | (go_at_call_has 13 (Value.int IntKind.i64 y); exact d1 _) | (go_at_call_has 13 (Value.int IntKind.i64 x); exact d2 _))
            go_wp2
            go_round
            case rel => exact ⟨j + 1, _, by omega, by go_num, rfl⟩
            case measure => simp [intOf]; omega
      · go_wp2
        go_ret
        exact ⟨rfl, ((Chg.ofBelow Q1.out (fun _ => False)).drewN _).toBelow⟩

theorem fnWalk_any (br : Bool) (A : Option Addr) (kk c : Nat) (G : List (List Int)) (a z : Int) (w : World) (hg : GrIn w (fun _ => True) A kk G) (hk : kk ≤ maxLen) :
    Calls Try.prog 5 #[.bool br, .slice A kk c, .int .i64 a, .int .i64 z] w fun e w' => e = .returned (.bool true) ∧ Below w.heap.size w w' := by
  have HG := hide hg
  have hk2 := hk
  unfold maxLen at hk2
  clear hg
  by_cases hfit : fitsB kk G = true
  · by_cases h30 : 30 < kk
    · go_enter Try.func5, Try.ntmps5
      go_wp2_with fail
      refine (fits6_any _ A kk c G _ HG.out hk).mono ?_
      rw [hfit]
      rintro e w1 ⟨rfl, rfl⟩
      go_wp2_with fail
      go_ret
      exact ⟨rfl, Below.refl _ _⟩
    · exact fnWalk_main br A kk c G a z w HG.out hk hfit (by omega)
  · have hfit' : fitsB kk G = false := by simpa using hfit
    clear hfit
    go_enter Try.func5, Try.ntmps5
    go_wp2_with fail
    refine (fits6_any _ A kk c G _ HG.out hk).mono ?_
    rw [hfit']
    rintro e w1 ⟨rfl, rfl⟩
    go_wp2_with fail
    go_ret
    exact ⟨rfl, Below.refl _ _⟩
end Go.Proofs.Ytndkjjfnlpkigaa
