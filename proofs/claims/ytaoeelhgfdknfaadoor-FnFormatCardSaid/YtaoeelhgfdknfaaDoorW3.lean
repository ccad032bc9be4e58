/- The walks of spec.Identifiers, leading, short. No condition but sizes. -/
import Derived.Test.YtaoeelhgfdknfaaDoorW2
namespace Go.Proofs.YtaoeelhgfdknfaaDoor
open Go.RowKit

attribute [local go_sem] S_size S_toList E_toList S_extract

theorem isIdc_yes {c : UInt8} (h : isIdc c = true) : (48 ≤ c.toNat ∧ c.toNat ≤ 57) ∨ (97 ≤ c.toNat ∧ c.toNat ≤ 122) ∨ (65 ≤ c.toNat ∧ c.toNat ≤ 90) ∨ c.toNat = 45 := by
  simp only [isIdc, isDig, Bool.or_eq_true, Bool.and_eq_true, decide_eq_true_eq, beq_iff_eq] at h
  omega
theorem isIdc_no {c : UInt8} (h : isIdc c = false) : c.toNat < 45 ∨ (45 < c.toNat ∧ c.toNat < 48) ∨ (57 < c.toNat ∧ c.toNat < 65) ∨ (90 < c.toNat ∧ c.toNat < 97) ∨ 122 < c.toNat := by
  have h' : ¬ (isIdc c = true) := by rw [h]; decide
  simp only [isIdc, isDig, Bool.or_eq_true, Bool.and_eq_true, decide_eq_true_eq, beq_iff_eq] at h'
  omega
theorem strs_at {P : List Bs} {k : Nat} {u : Value} (h : (strs P)[k]? = some u) : ∃ x, P[k]? = some x ∧ u = .string (S x) := by
  rw [List.getElem?_map] at h
  cases hx : P[k]? with
  | none => rw [hx] at h; cases h
  | some x => rw [hx] at h; exact ⟨x, rfl, by simpa using h.symm⟩
theorem not_idents {l x : Bs} (hx : x ∈ dots l) (h : (x.all isIdc && !x.isEmpty) = false) : identsB l = false := by
  unfold identsB
  rw [List.all_eq_false]
  exact ⟨x, hx, by rw [h]; decide⟩

set_option maxHeartbeats 2000000 in
set_option maxRecDepth 100000 in
theorem identifiers_any (l : Bs) (w : World) (hl : l.length ≤ 8589934591) : Calls Tryd.prog 16 #[.string (S l)] w fun e w' => e = .returned (.bool (identsB l)) ∧ Below w.heap.size w w' := by
  go_enter Tryd.func16, Tryd.ntmps16
  go_wp2_with fail
  refine (split_any l w (by omega)).mono ?_
  rintro e w2 ⟨A, cc, rfl, hr, _, _, hb⟩
  have HR := hide hr
  have HB := hide hb
  have hnl := dots_length l
  have HMEM := hide (dots_mem l)
  clear hr hb
  obtain ⟨n, hn⟩ : ∃ n, n = (dots l).length := ⟨_, rfl⟩
  rw [← hn] at HR hnl ⊢
  have HN := hide hn
  clear hn
  go_wp2
  go_loopw [10] (fun i wr => ∃ j : Nat, j ≤ n ∧ i = .int .i64 j ∧ wr = w2 ∧ Hid (((dots l).take j).all (fun x => x.all isIdc && !x.isEmpty) = true)) (fun i _ => n - (intOf i).toNat)
  case atStart => exact ⟨0, Nat.zero_le _, rfl, rfl, rfl⟩
  case round =>
    obtain ⟨j, hj, rfl, rfl, HA⟩ := hrel
    by_cases hlt : j < n
    · obtain ⟨ad, u, rfl, _, hx, hcx⟩ := HR.out.at_ hlt
      obtain ⟨x, hxx, rfl⟩ := strs_at hx
      have HX := hide hxx
      have hxl := (HMEM.out x (mem_at hxx)).2
      clear hx hxx
      go_wp2
      go_loopw [16] (fun i wq => ∃ q : Nat, q ≤ x.length ∧ i = .int .i64 q ∧ wq = wr ∧ Hid ((x.take q).all isIdc = true)) (fun i _ => x.length - (intOf i).toNat)
      case atStart => exact ⟨0, Nat.zero_le _, rfl, rfl, rfl⟩
      case round =>
        obtain ⟨q, hq, rfl, rfl, HQ⟩ := hrel
        by_cases hlq : q < x.length
        · obtain ⟨c, hc⟩ : ∃ c, x[q]? = some c := ⟨_, List.getElem?_eq_getElem hlq⟩
          have hix := index_S hc
          have HC := hide hc
          clear hc
          cases hd : isIdc c with
          | true =>
            have hyes := isIdc_yes hd
            have HD := hide hd
            clear hd
            rcases hyes with ⟨h1, h2⟩ | ⟨h1, h2⟩ | ⟨h1, h2⟩ | h1
            rotate_left 3
            · have h2 : (c.toNat : Int) = 45 := by omega
              rw [h2] at hix
              go_wp2
              go_roundw
              case measure => simp [intOf]; omega
              case rel =>
                refine ⟨q + 1, by omega, by go_num, trivial, ?_⟩
                show _ = _
                rw [take_succ HC.out, List.all_append, HQ.out]
                simp [HD.out]
            all_goals
              go_wp2
              all_goals
                go_roundw
                case measure => simp [intOf]; omega
                case rel =>
                  refine ⟨q + 1, by omega, by go_num, trivial, ?_⟩
                  show _ = _
                  rw [take_succ HC.out, List.all_append, HQ.out]
                  simp [HD.out]
          | false =>
            have hbad : identsB l = false := by
              refine not_idents (mem_at HX.out) ?_
              have : x.all isIdc = false := by
                rw [List.all_eq_false]
                exact ⟨c, mem_at HC.out, by simp [hd]⟩
              rw [this]; rfl
            have hno := isIdc_no hd
            have HBD := hide hbad
            clear hd hbad
            rcases hno with h1 | ⟨h1, h2⟩ | ⟨h1, h2⟩ | ⟨h1, h2⟩ | h1
            all_goals
              have hne : ((c.toNat : Int) != 45) = true := by rw [bne_iff_ne]; omega
              go_wp2
              all_goals
                go_ret
                exact ⟨by rw [HBD.out]; rfl, HB.out⟩
        · obtain rfl : q = x.length := by omega
          have hall := HQ.out
          rw [List.take_length] at hall
          cases x with
          | nil =>
            have hbad : identsB l = false := not_idents (mem_at HX.out) rfl
            have HBD := hide hbad
            clear hbad hall
            go_wp2
            go_ret
            exact ⟨by rw [HBD.out]; rfl, HB.out⟩
          | cons c y =>
            have HALL := hide hall
            clear hall
            go_wp2
            go_roundw
            case measure => simp [intOf]; omega
            case rel =>
              refine ⟨j + 1, by omega, by go_num, trivial, ?_⟩
              show _ = _
              rw [take_succ HX.out, List.all_append, HA.out]
              simp only [List.all_cons, List.all_nil, Bool.and_true, Bool.true_and]
              have h1 := HALL.out
              simp only [List.all_cons] at h1
              rw [h1]; rfl
    · obtain rfl : j = n := by omega
      have hfin : identsB l = true := by
        have h1 := HA.out
        rw [HN.out, List.take_length] at h1
        exact h1
      have HF := hide hfin
      clear hfin
      go_wp2
      go_ret
      exact ⟨by rw [HF.out]; rfl, HB.out⟩

theorem leads_yes {x : Bs} {c : UInt8} (hd : digitsB x = true) (h1 : 1 < x.length) (hc : x[0]? = some c) (h48 : c.toNat = 48) : leads x = true := by
  have : c = 48 := UInt8.toNat_inj.1 h48
  subst this
  cases x with
  | nil => cases hc
  | cons a y =>
    have : a = 48 := by simpa using hc
    subst this
    simp [leads, hd]
    simpa using h1
theorem leads_no {x : Bs} (h : digitsB x = false ∨ x.length ≤ 1 ∨ ∃ c, x[0]? = some c ∧ c.toNat ≠ 48) : leads x = false := by
  unfold leads
  rcases h with h | h | ⟨c, hc, h⟩
  · rw [h]; rfl
  · have : decide (1 < x.length) = false := decide_eq_false (by omega)
    rw [this]; simp
  · cases x with
    | nil => cases hc
    | cons a y =>
      obtain rfl : a = c := by simpa using hc
      have : (some a == some (48 : UInt8)) = false := by
        rw [beq_eq_false_iff_ne]
        intro e
        injection e with e
        exact h (by rw [e]; rfl)
      simp only [List.head?_cons, this, Bool.and_false]

set_option maxHeartbeats 2000000 in
set_option maxRecDepth 100000 in
theorem leading_any (l : Bs) (w : World) (hl : l.length ≤ 8589934591) : Calls Tryd.prog 17 #[.string (S l)] w fun e w' => e = .returned (.bool (leadingB l)) ∧ Below w.heap.size w w' := by
  go_enter Tryd.func17, Tryd.ntmps17
  go_wp2_with fail
  refine (split_any l w (by omega)).mono ?_
  rintro e w2 ⟨A, cc, rfl, hr, _, _, hb⟩
  have HR := hide hr
  have HB := hide hb
  have hnl := dots_length l
  have HMEM := hide (dots_mem l)
  clear hr hb
  obtain ⟨n, hn⟩ : ∃ n, n = (dots l).length := ⟨_, rfl⟩
  rw [← hn] at HR hnl ⊢
  have HN := hide hn
  clear hn
  go_wp2
  go_loopw [8] (fun i wr => ∃ j : Nat, j ≤ n ∧ i = .int .i64 j ∧ wr = w2 ∧ Hid (((dots l).take j).any leads = false)) (fun i _ => n - (intOf i).toNat)
  case atStart => exact ⟨0, Nat.zero_le _, rfl, rfl, rfl⟩
  case round =>
    obtain ⟨j, hj, rfl, rfl, HA⟩ := hrel
    by_cases hlt : j < n
    · obtain ⟨ad, u, rfl, _, hx, hcx⟩ := HR.out.at_ hlt
      obtain ⟨x, hxx, rfl⟩ := strs_at hx
      have HX := hide hxx
      have hxl := (HMEM.out x (mem_at hxx)).2
      clear hx hxx
      go_wp2_with fail
      refine (digits_any x wr (by omega)).mono ?_
      rintro e w3 ⟨rfl, rfl⟩
      have hgo : leads x = false → Hid (((dots l).take (j + 1)).any leads = false) := fun h => by
        show _ = _
        rw [take_succ HX.out, List.any_append, HA.out]
        simp [h]
      cases hd : digitsB x with
      | false =>
        have HG := hgo (leads_no (Or.inl hd))
        clear hgo hd
        go_wp2
        go_roundw
        case measure => simp [intOf]; omega
        case rel => exact ⟨j + 1, by omega, by go_num, trivial, HG⟩
      | true =>
        by_cases h1 : 1 < x.length
        · obtain ⟨c, hc⟩ : ∃ c, x[0]? = some c := ⟨_, List.getElem?_eq_getElem (by omega)⟩
          have hix : ∀ W : World, (Instr.index 9 (.string (S x)) (.int .i64 0)).run Tryd.prog W = .ok (.int .u8 (c.toNat : Int)) W := index_S hc
          by_cases h48 : c.toNat = 48
          · have hyes : leadingB l = true := by
              unfold leadingB
              rw [List.any_eq_true]
              exact ⟨x, mem_at HX.out, leads_yes hd h1 hc h48⟩
            have HY := hide hyes
            clear hgo hd hyes hc
            have h48' : (c.toNat : Int) = 48 := by omega
            rw [h48'] at hix
            clear h48 h48'
            go_wp2
            go_ret
            exact ⟨by rw [HY.out]; rfl, HB.out⟩
          · have HG := hgo (leads_no (Or.inr (Or.inr ⟨c, hc, h48⟩)))
            have h48' : ¬ (c.toNat : Int) = 48 := by omega
            clear hgo hd hc h48
            go_wp2
            go_roundw
            case measure => simp [intOf]; omega
            case rel => exact ⟨j + 1, by omega, by go_num, trivial, HG⟩
        · have HG := hgo (leads_no (Or.inr (Or.inl (by omega))))
          clear hgo hd
          go_wp2
          go_roundw
          case measure => simp [intOf]; omega
          case rel => exact ⟨j + 1, by omega, by go_num, trivial, HG⟩
    · obtain rfl : j = n := by omega
      have hfin : leadingB l = false := by
        have h1 := HA.out
        rw [HN.out, List.take_length] at h1
        exact h1
      have HF := hide hfin
      clear hfin
      go_wp2
      go_ret
      exact ⟨by rw [HF.out]; rfl, HB.out⟩

set_option maxHeartbeats 2000000 in
set_option maxRecDepth 100000 in
theorem short_any (l : Bs) (w : World) (hl : l.length ≤ 8589934591) : Calls Tryd.prog 18 #[.string (S l)] w fun e w' => e = .returned (.bool (shortB l)) ∧ Below w.heap.size w w' := by
  go_enter Tryd.func18, Tryd.ntmps18
  go_wp2_with fail
  refine (split_any l w (by omega)).mono ?_
  rintro e w2 ⟨A, cc, rfl, hr, _, _, hb⟩
  have HR := hide hr
  have HB := hide hb
  have hnl := dots_length l
  have HMEM := hide (dots_mem l)
  clear hr hb
  obtain ⟨n, hn⟩ : ∃ n, n = (dots l).length := ⟨_, rfl⟩
  rw [← hn] at HR hnl ⊢
  have HN := hide hn
  clear hn
  go_wp2
  go_loopw [8] (fun i wr => ∃ j : Nat, j ≤ n ∧ i = .int .i64 j ∧ wr = w2 ∧ Hid (((dots l).take j).all (fun x => !(digitsB x && decide (18 < x.length))) = true)) (fun i _ => n - (intOf i).toNat)
  case atStart => exact ⟨0, Nat.zero_le _, rfl, rfl, rfl⟩
  case round =>
    obtain ⟨j, hj, rfl, rfl, HA⟩ := hrel
    by_cases hlt : j < n
    · obtain ⟨ad, u, rfl, _, hx, hcx⟩ := HR.out.at_ hlt
      obtain ⟨x, hxx, rfl⟩ := strs_at hx
      have HX := hide hxx
      have hxl := (HMEM.out x (mem_at hxx)).2
      clear hx hxx
      go_wp2_with fail
      refine (digits_any x wr (by omega)).mono ?_
      rintro e w3 ⟨rfl, rfl⟩
      have hgo : (digitsB x && decide (18 < x.length)) = false → Hid (((dots l).take (j + 1)).all (fun x => !(digitsB x && decide (18 < x.length))) = true) := fun h => by
        show _ = _
        rw [take_succ HX.out, List.all_append, HA.out]
        simp only [List.all_cons, List.all_nil, h]
        rfl
      cases hd : digitsB x with
      | false =>
        have HG := hgo (by rw [hd]; rfl)
        clear hgo hd
        go_wp2
        go_roundw
        case measure => simp [intOf]; omega
        case rel => exact ⟨j + 1, by omega, by go_num, trivial, HG⟩
      | true =>
        by_cases h1 : 18 < x.length
        · have hyes : shortB l = false := by
            unfold shortB
            rw [List.all_eq_false]
            exact ⟨x, mem_at HX.out, by rw [hd, decide_eq_true h1]; decide⟩
          have HY := hide hyes
          clear hgo hd hyes
          go_wp2
          go_ret
          exact ⟨by rw [HY.out]; rfl, HB.out⟩
        · have HG := hgo (by rw [decide_eq_false h1]; simp)
          clear hgo hd
          go_wp2
          go_roundw
          case measure => simp [intOf]; omega
          case rel => exact ⟨j + 1, by omega, by go_num, trivial, HG⟩
    · obtain rfl : j = n := by omega
      have hfin : shortB l = true := by
        have h1 := HA.out
        rw [HN.out, List.take_length] at h1
        exact h1
      have HF := hide hfin
      clear hfin
      go_wp2
      go_ret
      exact ⟨by rw [HF.out]; rfl, HB.out⟩
end Go.Proofs.YtaoeelhgfdknfaaDoor
