/- The walks of the reference's Walked, of a good order, and of the closure that finds a distance. -/
import Derived.Test.YtndkjjfnlpkigaaGr
import Derived.Test.YtndkjjfnlpkigaaOrd
namespace Go.Proofs.Ytndkjjfnlpkigaa
open Go.RowKit

theorem Reads.take {w : World} {K : Nat → Prop} {A : Option Addr} {n j : Nat} {xs : List Int} (h : Reads w K 1 A n (ints xs)) (hj : j ≤ n) : Reads w K 1 A j (ints (xs.take j)) := by
  have hl : xs.length = n := by have := h.1; simpa using this
  refine ⟨by simp; omega, fun h0 => ?_⟩
  obtain ⟨ad, e, hk, hlt, hc⟩ := h.2 (by omega)
  refine ⟨ad, e, hk, hlt, fun i u hu => hc i u ?_⟩
  have h1 : (xs.take j)[i]? = xs[i]? := by
    have : i < j := by
      have := (List.getElem?_eq_some_iff.1 hu).1
      simp at this; omega
    rw [List.getElem?_take, if_pos this]
  rw [List.getElem?_map, h1] at hu
  rw [List.getElem?_map]; exact hu

theorem distL_first : ∀ {N F : List Int} {i : Nat} {n d : Int}, n ∉ N.take i → N[i]? = some n → F[i]? = some d → distL N F n = d
  | m :: N, e :: F, 0, n, d, _, h1, h2 => by
    simp at h1 h2; subst h1; subst h2; simp [distL]
  | m :: N, e :: F, i + 1, n, d, hn, h1, h2 => by
    rw [List.take_succ_cons] at hn
    have hm : m ≠ n := fun e => hn (by simp [e])
    rw [distL, if_neg hm]
    exact distL_first (fun h => hn (List.mem_cons_of_mem _ h)) (by simpa using h1) (by simpa using h2)
  | [], _, _, _, _, _, h, _ => by simp at h
  | _ :: _, [], _, _, _, _, _, h => by simp at h

set_option maxHeartbeats 400000 in
theorem dist_any (P1 P2 : Nat) (K : Nat → Prop) (NA FA : Option Addr) (m c1 c2 : Nat) (N F : List Int) (n : Int) (w : World) (hm : m ≤ 9223372036854775807) (h1 : w.cell? ⟨P1, 0, none⟩ = some (.slice NA m c1)) (h2 : w.cell? ⟨P2, 0, none⟩ = some (.slice FA m c2))
    (hN : Reads w K 1 NA m (ints N)) (hF : Reads w K 1 FA m (ints F)) :
    Calls Try.prog 13 #[.int .i64 n, .pointer (some ⟨P1, 0, none⟩), .pointer (some ⟨P2, 0, none⟩)] w fun e w' => e = .returned (.int .i64 (distL N F n)) ∧ w = w' := by
  have hl : N.length = m := by have := hN.1; simpa using this
  have hl2 : F.length = m := by have := hF.1; simpa using this
  have HL := hide hl
  have HL2 := hide hl2
  have HN := hide hN
  have HF := hide hF
  clear hl hl2 hN hF
  go_enter Try.func13, Try.ntmps13
  go_wp2
  go_loop [9] (fun i => ∃ k : Nat, k ≤ m ∧ i = .int .i64 k ∧ Hid (n ∉ N.take k)) (fun i => m - (intOf i).toNat)
  case atStart => exact ⟨0, Nat.zero_le _, rfl, by simp [Hid]⟩
  case round =>
    obtain ⟨k, hk, rfl, hno⟩ := hrel
    by_cases hlt : k < m
    · obtain ⟨ad, u, rfl, hb, hx, hc⟩ := HN.out.at_ hlt
      obtain ⟨ad2, u2, rfl, hb2, hx2, hc2⟩ := HF.out.at_ hlt
      obtain ⟨rfl, hkl⟩ := ints_at hx
      obtain ⟨rfl, hkl2⟩ := ints_at hx2
      clear hx hb hx2 hb2
      obtain ⟨x, hx⟩ : ∃ x, x = N.getD k 0 := ⟨_, rfl⟩
      obtain ⟨x2, hx2⟩ : ∃ x, x = F.getD k 0 := ⟨_, rfl⟩
      rw [← hx] at hc
      rw [← hx2] at hc2
      have HX := hide hx
      have HX2 := hide hx2
      clear hx hx2
      by_cases hxn : x = n
      · have hd : distL N F n = x2 := by
          refine distL_first hno.out (i := k) ?_ ?_
          · rw [← hxn, HX.out, List.getD_eq_getElem?_getD, List.getElem?_eq_getElem hkl]; rfl
          · rw [HX2.out, List.getD_eq_getElem?_getD, List.getElem?_eq_getElem hkl2]; rfl
        have hxn' : (x == n) = true := by simp [hxn]
        have HDD := hide hd
        clear hxn hd
        go_wp2
        go_ret
        exact ⟨ret_int HDD.out.symm, rfl⟩
      · have hxn' : (x == n) = false := beq_eq_false_iff_ne.2 hxn
        have HXN := hide hxn
        clear hxn
        go_wp2
        go_round
        case rel =>
          refine ⟨k + 1, by omega, by go_num, ?_⟩
          show n ∉ N.take (k + 1)
          rw [take_succ_getD HX.out hkl]
          simp only [List.mem_append, not_or, List.mem_singleton]
          exact ⟨hno.out, fun e => HXN.out e.symm⟩
        case measure => simp [intOf]; omega
    · have hd : distL N F n = -1 := by
        refine distL_none ?_
        have h1 := hno.out
        have hl := HL.out
        rw [List.take_of_length_le (by omega)] at h1
        exact h1
      have HDD := hide hd
      clear hd
      go_wp2
      go_ret
      exact ⟨ret_int HDD.out.symm, rfl⟩

set_option maxHeartbeats 1000000 in
theorem walked_any (K : Nat → Prop) (A : Option Addr) (kk c : Nat) (G : List (List Int)) (a : Int) (L : Option Addr) (n lc : Nat) (xs : List Int) (w : World) (hg : GrIn w K A kk G)
    (K2 : Nat → Prop) (hr : Reads w K2 1 L n (ints xs)) (hn : n ≤ 140737488355328) (hp : 0 < n) (hcap : n ≤ lc) (hlc : lc ≤ maxLen) (hnd : xs.Nodup) (hled : Led G a xs) :
    Calls Try.prog 14 #[.slice A kk c, .int .i64 a, .slice L n lc] w fun e w' => e = .returned (.bool true) ∧ w = w' := by
  have HG := hide hg
  have HR := hide hr
  have HND := hide hnd
  have HLED := hide hled
  unfold maxLen at hlc
  have hxl : Hid (xs.length = n) := by have := hr.1; simpa [Hid] using this
  clear hg hr hnd hled
  go_enter Try.func14, Try.ntmps14
  go_wp2
  go_loop [14] (fun i => ∃ j : Nat, j ≤ n ∧ i = .int .i64 j) (fun i => n - (intOf i).toNat)
  case atStart => exact ⟨0, Nat.zero_le _, rfl⟩
  case round =>
    obtain ⟨j, hj, rfl⟩ := hrel
    by_cases hlt : j < n
    · obtain ⟨ad, u, rfl, _, hx, hcell⟩ := HR.out.at_ hlt
      obtain ⟨rfl, hjl⟩ := ints_at hx
      obtain ⟨y, hy⟩ : ∃ y, y = xs.getD j 0 := ⟨_, rfl⟩
      rw [← hy] at hcell
      have HY := hide hy
      have HT := hide (HR.out.take hj)
      have hyj : Hid (xs[j]? = some y) := by show _ = _; rw [HY.out, List.getD_eq_getElem?_getD, List.getElem?_eq_getElem hjl]; rfl
      have hnot : decide (y ∈ xs.take j) = false := by
        rw [decide_eq_false_iff_not]
        intro hin
        obtain ⟨i, hi⟩ := List.mem_iff_getElem?.1 hin
        have hij : i < j := by
          have := (List.getElem?_eq_some_iff.1 hi).1
          simp at this; omega
        rw [List.getElem?_take, if_pos hij] at hi
        have := nodup_at HND.out hi hyj.out
        omega
      clear hx hy
      go_wp2_with fail
      have hcall := has_any K2 (some ad) j lc (xs.take j) y w HT.out (by omega)
      rw [hnot] at hcall
      refine hcall.mono ?_
      clear hcall hnot
      rintro e w1 ⟨rfl, rfl⟩
      rcases Nat.eq_zero_or_pos j with rfl | hjp
      · obtain rfl : y = a := HLED.out.first y hyj.out
        have hyy : (y == y) = true := by simp
        go_wp2
        refine wp_loop_rounds 1 ?_
        rw [rounds_succ]
        go_wp2
        go_round
        case rel => exact ⟨1, by omega, by go_num⟩
        case measure => simp [intOf]; omega
      · have HLD := hide (HLED.out.led j y hjp hyj.out)
        go_wp2_with fail
        go_loop [9, 39] (fun b i => ∃ q : Nat, q ≤ j ∧ i = .int .i64 q ∧ (b = .bool true ∨ (b = .bool false ∧ Hid (∀ m ∈ xs.take q, y ∉ adj G m)))) (fun _ i => j - (intOf i).toNat)
        case atStart => exact ⟨0, Nat.zero_le _, rfl, Or.inr ⟨congrArg Value.bool (beq_eq_false_iff_ne.2 (by omega)), by simp [Hid]⟩⟩
        case round =>
          obtain ⟨q, hq, rfl, hb⟩ := hrel
          by_cases hlq : q < j
          · obtain ⟨ad', u', e', _, hx', hcell'⟩ := HR.out.at_ (show q < n by omega)
            obtain rfl : ad = ad' := by injection e'
            obtain ⟨rfl, hql⟩ := ints_at hx'
            obtain ⟨x, hx⟩ : ∃ x, x = xs.getD q 0 := ⟨_, rfl⟩
            rw [← hx] at hcell'
            have HX := hide hx
            clear hx hx' e'
            rcases hb with rfl | ⟨rfl, hb⟩
            · go_wp2
              go_round
              case rel => exact ⟨q + 1, by omega, by go_num, Or.inl rfl⟩
              case measure => simp [intOf]; omega
            · go_wp2_with fail
              refine (edges_any K A kk c G x _ HG.out).mono ?_
              rintro e w1 ⟨EA, ec, rfl, hym, hre, rfl⟩
              have HRE := hide hre
              unfold maxLen at hym
              clear hre
              generalize hys : adj G x = ys at *
              have HYS := hide hys
              clear hys
              go_wp2_with fail
              refine (has_any _ _ ys.length _ ys y _ HRE.out (by omega)).mono ?_
              by_cases hin : y ∈ ys
              · have hd : decide (y ∈ ys) = true := by simpa using hin
                rw [hd]
                clear hd hin
                rintro e w1 ⟨rfl, rfl⟩
                go_wp2
                go_round
                case rel => exact ⟨q + 1, by omega, by go_num, Or.inl rfl⟩
                case measure => simp [intOf]; omega
              · have hd : decide (y ∈ ys) = false := by simpa using hin
                rw [hd]
                have HIN := hide hin
                clear hd hin
                rintro e w1 ⟨rfl, rfl⟩
                go_wp2
                go_round
                case rel =>
                  refine ⟨q + 1, by omega, by go_num, Or.inr ⟨rfl, ?_⟩⟩
                  show ∀ m ∈ xs.take (q + 1), y ∉ adj G m
                  rw [take_succ_getD HX.out hql]
                  intro m hm
                  rcases List.mem_append.1 hm with hm | hm
                  · exact hb.out m hm
                  · rw [List.mem_singleton.1 hm, HYS.out]; exact HIN.out
                case measure => simp [intOf]; omega
          · rcases hb with rfl | ⟨rfl, hb⟩
            · go_wp2
              go_round
              case rel => exact ⟨j + 1, by omega, by go_num⟩
              case measure => simp [intOf]; omega
            · exfalso
              obtain ⟨m, hm, hy⟩ := HLD.out
              exact hb.out m (by rw [show q = j by omega]; exact hm) hy
    · go_wp2
      go_ret
      exact ⟨rfl, rfl⟩
end Go.Proofs.Ytndkjjfnlpkigaa
