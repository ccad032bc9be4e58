/- The walk of semver's Version.Compare. Printed by gen_w8.py. -/
import Derived.Test.YtaoeelhgfdknfaaDoorW7
namespace Go.Proofs.YtaoeelhgfdknfaaDoor
open Go.RowKit

attribute [local go_sem] S_size S_toList E_toList S_extract

theorem atoi_any (l : Bs) (w : World) (hd : digitsB l = true) (h18 : l.length ≤ 18) : Calls Tryd.prog 32 #[.string (S l)] w fun e w' => e = .returned (.tuple #[.int .i64 (numB l), .nilIface]) ∧ Below w.heap.size w w' :=
  (Tryd.strconv_Atoi (S l) (numB l) (by rw [S_size]; exact h18) (atoi_num hd) w).mono fun e w' ⟨he, t, ht⟩ => ⟨he, by rw [ht]; exact Go.Joins.below_bytesWorld _ _ _ _ (Nat.le_refl _)⟩

/-- Identifiers such as a proper version has. -/
def IdOk (z : Bs) : Prop := z ≠ [] ∧ leads z = false ∧ (digitsB z = true → z.length ≤ 18) ∧ (∀ c ∈ z, c.toNat < 128) ∧ z.length ≤ 8589934591
def PreOk (p : Bs) : Prop := ∀ z ∈ dots p, IdOk z
theorem preOk_of {v : Ver} (hp : properB v = true) (hl : v.pre.length ≤ 8589934591) (hne : v.pre ≠ []) : PreOk v.pre := by
  unfold properB at hp
  simp only [Bool.and_eq_true, Bool.or_eq_true] at hp
  obtain ⟨⟨_, h⟩, _⟩ := hp
  rcases h with h | ⟨⟨h1, h2⟩, h3⟩
  · exact absurd (List.isEmpty_iff.1 h) hne
  · intro z hz
    have i1 := List.all_eq_true.1 h1 z hz
    simp only [Bool.and_eq_true] at i1
    refine ⟨?_, ?_, fun hd => short_mem h3 hz hd, fun c hc => ?_, by have := (dots_mem v.pre z hz).2; omega⟩
    · rintro rfl; simp at i1
    · have h2' : leadingB v.pre = false := by simpa using h2
      unfold leadingB at h2'
      rw [List.any_eq_false] at h2'
      have := h2' z hz
      simpa using this
    · have i2 := isIdc_yes (List.all_eq_true.1 i1.1 c hc)
      omega
theorem cut_shorter : ∀ l : Bs, l ≠ [] → (cut46 l).2.length < l.length
  | [], h => absurd rfl h
  | c :: l, _ => by
    unfold cut46
    split
    · simp
    · cases l with
      | nil => simp [cut46]
      | cons d l =>
        have := cut_shorter (d :: l) (by simp)
        simp only [List.length_cons] at this ⊢
        omega
theorem cut_len (l : Bs) : (cut46 l).2.length ≤ l.length := by
  cases l with
  | nil => simp [cut46]
  | cons c l => exact Nat.le_of_lt (cut_shorter _ (by simp))
def strLen : Value → Nat | .string s => s.size | _ => 0

/-- What the loop holds. -/
structure CmpI (r : Int) (x ra y rb : Bs) (X Y : List Bs) : Prop where
  rma : Rem ra X
  rmb : Rem rb Y
  okx : ∀ z ∈ x :: X, IdOk z
  oky : ∀ z ∈ y :: Y, IdOk z
  eq : r = idsC (x :: X) (y :: Y)
  ne : r ≠ 0
  la : ra.length ≤ 8589934591
  lb : rb.length ≤ 8589934591
theorem rem_of {p : Bs} (hne : p ≠ []) : Rem p (dots p) := Or.inr ⟨hne, rfl⟩
theorem cmpI_cut {r : Int} {pa pb : Bs} {X Y : List Bs} (ha : Rem pa X) (hb : Rem pb Y) (hX : X ≠ []) (hY : Y ≠ []) (hx : ∀ z ∈ X, IdOk z) (hy : ∀ z ∈ Y, IdOk z) (he : r = idsC X Y) (hn : r ≠ 0) (hla : pa.length ≤ 8589934591) (hlb : pb.length ≤ 8589934591) :
    ∃ X' Y', CmpI r (cut46 pa).1 (cut46 pa).2 (cut46 pb).1 (cut46 pb).2 X' Y' := by
  cases X with
  | nil => exact absurd rfl hX
  | cons x X =>
    cases Y with
    | nil => exact absurd rfl hY
    | cons y Y =>
      obtain ⟨h1, h2⟩ := ha.cut (fun z hz => (hx z hz).1)
      obtain ⟨h3, h4⟩ := hb.cut (fun z hz => (hy z hz).1)
      refine ⟨X, Y, h2, h4, ?_, ?_, ?_, hn, ?_, ?_⟩
      · rw [h1]; exact hx
      · rw [h3]; exact hy
      · rw [h1, h3]; exact he
      · have := cut_len pa; omega
      · have := cut_len pb; omega

/-- A step of the loop where the two identifiers are alike. -/
theorem CmpI.alike {r : Int} {x ra y rb : Bs} {X Y : List Bs} (h : CmpI r x ra y rb X Y) (h0 : identC x y = 0) : (X = [] → Y = [] → False) ∧ (X ≠ [] → Y = [] → r = 1) ∧ (X = [] → Y ≠ [] → r = -1) ∧ r = idsC X Y := by
  have he := h.eq
  have h1 : idsC (x :: X) (y :: Y) = idsC X Y := by
    show (if identC x y ≠ 0 then identC x y else idsC X Y) = _
    rw [if_neg (by simp [h0])]
  rw [h1] at he
  refine ⟨?_, ?_, ?_, he⟩
  · rintro rfl rfl; exact h.ne he
  · intro hX hY; subst hY
    cases X with
    | nil => exact absurd rfl hX
    | cons _ _ => exact he
  · intro hX hY; subst hX
    cases Y with
    | nil => exact absurd rfl hY
    | cons _ _ => exact he
theorem CmpI.apart {r : Int} {x ra y rb : Bs} {X Y : List Bs} (h : CmpI r x ra y rb X Y) (h0 : identC x y ≠ 0) : r = identC x y := by
  rw [h.eq]
  show (if identC x y ≠ 0 then identC x y else idsC X Y) = _
  rw [if_pos h0]

set_option maxHeartbeats 4000000 in
set_option maxRecDepth 100000 in
theorem vcompare_pre (a b : Ver) (w W0 : World) (hb0 : Below w.heap.size w W0) (ha : a.pre.length ≤ 8589934591) (hb : b.pre.length ≤ 8589934591) (hpa : properB a = true) (hpb : properB b = true) (hmaj : a.maj = b.maj) (hmin : a.min = b.min) (hpat : a.pat = b.pat)
    (hW0 : (w.alloc (.cells a.cells 40)).alloc (.cells b.cells 40) = W0) (hne : ¬ a.pre = b.pre) (hae : a.pre.isEmpty = false) (hbe : b.pre.isEmpty = false) :
    Calls Tryd.prog 20 #[.agg a.cells, .agg b.cells] w (CmpOut (verC a b) w) := by
  have hA0 : Blk W0 w.heap.size 40 a.cells := by rw [← hW0]; exact (Blk.new _ _ _).alloc _
  have hB0 : Blk W0 (w.heap.size + 1) 40 b.cells := by rw [← hW0]; exact Blk.new_ _ _ _ (by simp)
  have hae2 : a.pre ≠ [] := by rw [Ne, ← List.isEmpty_iff, hae]; decide
  have hbe2 : b.pre ≠ [] := by rw [Ne, ← List.isEmpty_iff, hbe]; decide
  have hoka := preOk_of hpa ha hae2
  have hokb := preOk_of hpb hb hbe2
  have hr : verC a b = idsC (dots a.pre) (dots b.pre) := by
    unfold verC
    rw [hmaj, hmin, hpat]
    simp only [sgn, Int.lt_irrefl, if_false, ne_eq, not_true]
    unfold preC
    rw [if_neg hne, if_neg hae2, if_neg hbe2]
  have hn0 : verC a b ≠ 0 := by
    rw [hr]
    intro e
    exact hne (dots_inj _ _ (idsC_zero _ _ (fun x hx => (hoka x hx).2.1) (fun x hx => (hokb x hx).2.1) e))
  have hI0 := cmpI_cut (rem_of hae2) (rem_of hbe2) (dots_ne _) (dots_ne _) hoka hokb hr hn0 ha hb
  have a3 : W0.cell? ⟨w.heap.size, 3, none⟩ = some (.string (S a.pre)) := by rw [hA0.cell]; rfl
  have b3 : W0.cell? ⟨w.heap.size + 1, 3, none⟩ = some (.string (S b.pre)) := by rw [hB0.cell]; rfl
  have g0 : decide (b.maj < a.maj) = false := decide_eq_false (by omega)
  have g1 : decide (a.maj < b.maj) = false := decide_eq_false (by omega)
  have g2 : decide (b.min < a.min) = false := decide_eq_false (by omega)
  have g3 : decide (a.min < b.min) = false := decide_eq_false (by omega)
  have g4 : decide (b.pat < a.pat) = false := decide_eq_false (by omega)
  have g5 : decide (a.pat < b.pat) = false := decide_eq_false (by omega)
  have he : (a.pre == b.pre) = false := beq_eq_false_iff_ne.2 hne
  have HI0 := hide hI0
  have HB0 := hide hb0
  have HW0 := hide hW0
  have HB00 := hide hB0
  clear hI0 hb0 hW0 hA0 hoka hokb hr hn0 hae2 hbe2 hne hpa hpb hmaj hmin hpat hB0
  unfold Ver.cells at *
  go_enter Tryd.func20, Tryd.ntmps20
  go_wp2_with fail
  rw [HW0.out]
  have hla := cut_len a.pre
  have hlb := cut_len b.pre
  refine (cutdot_any a.pre _ (by omega)).mono ?_
  rintro e wa ⟨rfl, q1, hq1⟩
  have HC1 : Hid (Below w.heap.size w wa) := by rw [hq1]; exact ((Chg.ofBelow HB0.out (fun _ => False)).drewN q1).toBelow
  have b3' : wa.cell? ⟨w.heap.size + 1, 3, none⟩ = some (.string (S b.pre)) := by rw [hq1]; exact b3
  clear hq1 b3 a3
  go_wp2_with fail
  refine (cutdot_any b.pre _ (by omega)).mono ?_
  rintro e wb ⟨rfl, q2, hq2⟩
  have HC2 : Hid (Below w.heap.size w wb) := by rw [hq2]; exact ((Chg.ofBelow HC1.out (fun _ => False)).drewN q2).toBelow
  clear hq2 b3'
  go_wp2_with fail
  go_loopw [5, 6, 7, 8] (fun va vra vb vrb wr => ∃ (x ra y rb : Bs) (X Y : List Bs), va = .string (S x) ∧ vra = .string (S ra) ∧ vb = .string (S y) ∧ vrb = .string (S rb) ∧ Hid (CmpI (verC a b) x ra y rb X Y) ∧ Hid (Below w.heap.size w wr)) (fun _ vra _ _ _ => strLen vra)
  case atStart =>
    obtain ⟨X, Y, hI⟩ := HI0.out
    exact ⟨_, _, _, _, X, Y, rfl, rfl, rfl, rfl, hI, HC2.out⟩
  case round =>
    obtain ⟨x, ra, y, rb, X, Y, rfl, rfl, rfl, rfl, HI, HB⟩ := hrel
    clear g0 g1 g2 g3 g4 g5
    have okx := HI.out.okx x (List.mem_cons_self ..)
    have oky := HI.out.oky y (List.mem_cons_self ..)
    have hxe : x.isEmpty = false := by cases x with | nil => exact absurd rfl okx.1 | cons _ _ => rfl
    have hye : y.isEmpty = false := by cases y with | nil => exact absurd rfl oky.1 | cons _ _ => rfl
    have OKX := hide okx
    have OKY := hide oky
    clear okx oky
    go_wp2_with fail
    refine (alldec_any x _ OKX.out.2.2.2.1).mono ?_
    rintro e w1 ⟨rfl, hb⟩
    have HB1 : Hid (Below w.heap.size w w1) := HB.out.trans (hb.mono HB.out.size)
    clear hb
    go_wp2_with fail
    refine (alldec_any y _ OKY.out.2.2.2.1).mono ?_
    rintro e w2 ⟨rfl, hb⟩
    have HB2 : Hid (Below w.heap.size w w2) := HB1.out.trans (hb.mono HB1.out.size)
    clear hb
    have htot := bl_total x y
    cases hdx : digitsB x <;> cases hdy : digitsB y
    · cases hl : Op.bytesLess x y
      · cases hl2 : Op.bytesLess y x
        · have hxy : (x == y) = true := by rw [hl, hl2] at htot; simpa using htot
          have h0 : identC x y = 0 := by unfold identC; rw [hdx, hdy, hl, hl2]; rfl
          clear htot
          have hal := HI.out.alike h0
          have HAL := hide hal
          clear hal
          cases hra : ra.isEmpty <;> cases hrb : rb.isEmpty
          · have hra2 : ra ≠ [] := by rw [Ne, ← List.isEmpty_iff, hra]; decide
            have hrb2 : rb ≠ [] := by rw [Ne, ← List.isEmpty_iff, hrb]; decide
            have hX : X ≠ [] := fun e => hra2 (HI.out.rma.empty_iff.2 e)
            have hY : Y ≠ [] := fun e => hrb2 (HI.out.rmb.empty_iff.2 e)
            have hnew := cmpI_cut HI.out.rma HI.out.rmb hX hY (fun z hz => HI.out.okx z (List.mem_cons_of_mem _ hz)) (fun z hz => HI.out.oky z (List.mem_cons_of_mem _ hz)) HAL.out.2.2.2 HI.out.ne HI.out.la HI.out.lb
            have hsh := cut_shorter ra hra2
            have hla := HI.out.la
            have hlb := HI.out.lb
            have HNEW := hide hnew
            have HSH := hide hsh
            clear hnew hsh hra2 hrb2 hX hY h0
            go_wp2_with fail
            refine (cutdot_any ra _ (by omega)).mono ?_
            rintro e wc ⟨rfl, q1, hq1⟩
            have HC1 : Hid (Below w.heap.size w wc) := by rw [hq1]; exact ((Chg.ofBelow HB2.out (fun _ => False)).drewN q1).toBelow
            clear hq1
            go_wp2_with fail
            refine (cutdot_any rb _ (by omega)).mono ?_
            rintro e wd ⟨rfl, q2, hq2⟩
            have HC2 : Hid (Below w.heap.size w wd) := by rw [hq2]; exact ((Chg.ofBelow HC1.out (fun _ => False)).drewN q2).toBelow
            clear hq2
            go_wp2_with fail
            go_roundw
            case measure =>
              have := HSH.out
              simp only [strLen, S_size]
              omega
            case rel =>
              obtain ⟨X', Y', hI'⟩ := HNEW.out
              exact ⟨_, _, _, _, X', Y', rfl, rfl, rfl, rfl, hI', HC2.out⟩
          · have hr : verC a b = 1 := HAL.out.2.1 (fun e => by have := HI.out.rma.empty_iff.2 e; rw [this] at hra; cases hra) (HI.out.rmb.empty_iff.1 (List.isEmpty_iff.1 hrb))
            have HRR := hide hr
            clear hr h0
            go_wp2_with fail
            go_ret
            exact ⟨by rw [HRR.out]; rfl, HB2.out⟩
          · have hr : verC a b = -1 := HAL.out.2.2.1 (HI.out.rma.empty_iff.1 (List.isEmpty_iff.1 hra)) (fun e => by have := HI.out.rmb.empty_iff.2 e; rw [this] at hrb; cases hrb)
            have HRR := hide hr
            clear hr h0
            go_wp2_with fail
            go_ret
            exact ⟨by rw [HRR.out]; rfl, HB2.out⟩
          · exact (HAL.out.1 (HI.out.rma.empty_iff.1 (List.isEmpty_iff.1 hra)) (HI.out.rmb.empty_iff.1 (List.isEmpty_iff.1 hrb))).elim
        · have hxy : (x == y) = false := by rw [hl, hl2] at htot; simpa using htot
          have h0 : identC x y = 1 := by unfold identC; rw [hdx, hdy, hl, hl2]; rfl
          have hr : verC a b = 1 := by rw [HI.out.apart (by rw [h0]; decide), h0]
          have HRR := hide hr
          clear hr h0 htot
          go_wp2_with fail
          go_ret
          exact ⟨by rw [HRR.out]; rfl, HB2.out⟩
      · have h0 : identC x y = -1 := by unfold identC; rw [hdx, hdy, hl]; rfl
        have hr : verC a b = -1 := by rw [HI.out.apart (by rw [h0]; decide), h0]
        have HRR := hide hr
        clear hr h0 htot
        go_wp2_with fail
        go_ret
        exact ⟨by rw [HRR.out]; rfl, HB2.out⟩
    · have h0 : identC x y = 1 := by unfold identC; rw [hdx, hdy]; rfl
      have hr : verC a b = 1 := by rw [HI.out.apart (by rw [h0]; decide), h0]
      have HRR := hide hr
      clear hr h0 htot
      go_wp2_with fail
      go_ret
      exact ⟨by rw [HRR.out]; rfl, HB2.out⟩
    · have h0 : identC x y = -1 := by unfold identC; rw [hdx, hdy]; rfl
      have hr : verC a b = -1 := by rw [HI.out.apart (by rw [h0]; decide), h0]
      have HRR := hide hr
      clear hr h0 htot
      go_wp2_with fail
      go_ret
      exact ⟨by rw [HRR.out]; rfl, HB2.out⟩
    · have h0 : identC x y = sgn (numB x) (numB y) := by unfold identC; rw [hdx, hdy]; rfl
      have hnx := num_small (digits_all hdx) (OKX.out.2.2.1 hdx)
      have hny := num_small (digits_all hdy) (OKY.out.2.2.1 hdy)
      have hax := fun W => atoi_any x W hdx (OKX.out.2.2.1 hdx)
      have hay := fun W => atoi_any y W hdy (OKY.out.2.2.1 hdy)
      have HAX := hide hax
      have HAY := hide hay
      have HNX := hide hnx
      clear htot hax hay hnx hny
      go_wp2_with fail
      refine (HAX.out _).mono ?_
      rintro e w3 ⟨rfl, hb⟩
      have HB3 : Hid (Below w.heap.size w w3) := HB2.out.trans (hb.mono HB2.out.size)
      clear hb
      go_wp2_with fail
      refine (HAY.out _).mono ?_
      rintro e w4 ⟨rfl, hb⟩
      have HB4 : Hid (Below w.heap.size w w4) := HB3.out.trans (hb.mono HB3.out.size)
      clear hb
      obtain ⟨nx, hnx⟩ : ∃ n, n = numB x := ⟨_, rfl⟩
      obtain ⟨ny, hny⟩ : ∃ n, n = numB y := ⟨_, rfl⟩
      rw [← hnx, ← hny] at h0
      rw [← hnx, ← hny]
      clear hnx hny
      rcases Int.lt_trichotomy nx ny with h | h | h
      · have h1 : identC x y = -1 := by rw [h0]; unfold sgn; rw [if_pos h]
        have hr : verC a b = -1 := by rw [HI.out.apart (by rw [h1]; decide), h1]
        have HRR := hide hr
        have hg : decide (ny < nx) = false := decide_eq_false (by omega)
        clear hr h0 h1
        go_wp2_with fail
        go_ret
        exact ⟨by rw [HRR.out]; rfl, HB4.out⟩
      · have h0' : identC x y = 0 := by rw [h0]; unfold sgn; rw [if_neg (by omega), if_neg (by omega)]
        have hg : decide (ny < nx) = false := decide_eq_false (by omega)
        have hg2 : decide (nx < ny) = false := decide_eq_false (by omega)
        clear h0 h
        have h0 := h0'
        clear h0'
        have hal := HI.out.alike h0
        have HAL := hide hal
        clear hal
        cases hra : ra.isEmpty <;> cases hrb : rb.isEmpty
        · have hra2 : ra ≠ [] := by rw [Ne, ← List.isEmpty_iff, hra]; decide
          have hrb2 : rb ≠ [] := by rw [Ne, ← List.isEmpty_iff, hrb]; decide
          have hX : X ≠ [] := fun e => hra2 (HI.out.rma.empty_iff.2 e)
          have hY : Y ≠ [] := fun e => hrb2 (HI.out.rmb.empty_iff.2 e)
          have hnew := cmpI_cut HI.out.rma HI.out.rmb hX hY (fun z hz => HI.out.okx z (List.mem_cons_of_mem _ hz)) (fun z hz => HI.out.oky z (List.mem_cons_of_mem _ hz)) HAL.out.2.2.2 HI.out.ne HI.out.la HI.out.lb
          have hsh := cut_shorter ra hra2
          have hla := HI.out.la
          have hlb := HI.out.lb
          have HNEW := hide hnew
          have HSH := hide hsh
          clear hnew hsh hra2 hrb2 hX hY h0
          go_wp2_with fail
          refine (cutdot_any ra _ (by omega)).mono ?_
          rintro e wc ⟨rfl, q1, hq1⟩
          have HC1 : Hid (Below w.heap.size w wc) := by rw [hq1]; exact ((Chg.ofBelow HB4.out (fun _ => False)).drewN q1).toBelow
          clear hq1
          go_wp2_with fail
          refine (cutdot_any rb _ (by omega)).mono ?_
          rintro e wd ⟨rfl, q2, hq2⟩
          have HC2 : Hid (Below w.heap.size w wd) := by rw [hq2]; exact ((Chg.ofBelow HC1.out (fun _ => False)).drewN q2).toBelow
          clear hq2
          go_wp2_with fail
          go_roundw
          case measure =>
            have := HSH.out
            simp only [strLen, S_size]
            omega
          case rel =>
            obtain ⟨X', Y', hI'⟩ := HNEW.out
            exact ⟨_, _, _, _, X', Y', rfl, rfl, rfl, rfl, hI', HC2.out⟩
        · have hr : verC a b = 1 := HAL.out.2.1 (fun e => by have := HI.out.rma.empty_iff.2 e; rw [this] at hra; cases hra) (HI.out.rmb.empty_iff.1 (List.isEmpty_iff.1 hrb))
          have HRR := hide hr
          clear hr h0
          go_wp2_with fail
          go_ret
          exact ⟨by rw [HRR.out]; rfl, HB4.out⟩
        · have hr : verC a b = -1 := HAL.out.2.2.1 (HI.out.rma.empty_iff.1 (List.isEmpty_iff.1 hra)) (fun e => by have := HI.out.rmb.empty_iff.2 e; rw [this] at hrb; cases hrb)
          have HRR := hide hr
          clear hr h0
          go_wp2_with fail
          go_ret
          exact ⟨by rw [HRR.out]; rfl, HB4.out⟩
        · exact (HAL.out.1 (HI.out.rma.empty_iff.1 (List.isEmpty_iff.1 hra)) (HI.out.rmb.empty_iff.1 (List.isEmpty_iff.1 hrb))).elim
      · have h1 : identC x y = 1 := by rw [h0]; unfold sgn; rw [if_neg (by omega), if_pos h]
        have hr : verC a b = 1 := by rw [HI.out.apart (by rw [h1]; decide), h1]
        have HRR := hide hr
        clear hr h0 h1
        go_wp2_with fail
        go_ret
        exact ⟨by rw [HRR.out]; rfl, HB4.out⟩
set_option maxHeartbeats 1000000 in
set_option maxRecDepth 100000 in
theorem vcompare_gmaj (a b : Ver) (w : World)  (h : b.maj < a.maj) : Calls Tryd.prog 20 #[.agg a.cells, .agg b.cells] w (CmpOut (1) w) := by
  have hb0 : Below w.heap.size w ((w.alloc (.cells a.cells 40)).alloc (.cells b.cells 40)) := ((Below.refl _ _).alloc (Nat.le_refl _) _).alloc (by simp) _
  have HB0 := hide hb0
  clear hb0
  unfold Ver.cells at *
  go_enter Tryd.func20, Tryd.ntmps20
  go_wp2_with fail
  go_ret
  exact ⟨rfl, HB0.out⟩

set_option maxHeartbeats 1000000 in
set_option maxRecDepth 100000 in
theorem vcompare_lmaj (a b : Ver) (w : World)  (h : a.maj < b.maj) : Calls Tryd.prog 20 #[.agg a.cells, .agg b.cells] w (CmpOut (-1) w) := by
  have hb0 : Below w.heap.size w ((w.alloc (.cells a.cells 40)).alloc (.cells b.cells 40)) := ((Below.refl _ _).alloc (Nat.le_refl _) _).alloc (by simp) _
  have HB0 := hide hb0
  clear hb0
  have g9 : decide (b.maj < a.maj) = false := decide_eq_false (by omega)
  unfold Ver.cells at *
  go_enter Tryd.func20, Tryd.ntmps20
  go_wp2_with fail
  go_ret
  exact ⟨rfl, HB0.out⟩

set_option maxHeartbeats 1000000 in
set_option maxRecDepth 100000 in
theorem vcompare_gmin (a b : Ver) (w : World) (hmaj : a.maj = b.maj) (h : b.min < a.min) : Calls Tryd.prog 20 #[.agg a.cells, .agg b.cells] w (CmpOut (1) w) := by
  have hb0 : Below w.heap.size w ((w.alloc (.cells a.cells 40)).alloc (.cells b.cells 40)) := ((Below.refl _ _).alloc (Nat.le_refl _) _).alloc (by simp) _
  have HB0 := hide hb0
  clear hb0
  have g0 : decide (b.maj < a.maj) = false := decide_eq_false (by omega)
  have g1 : decide (a.maj < b.maj) = false := decide_eq_false (by omega)
  clear hmaj
  unfold Ver.cells at *
  go_enter Tryd.func20, Tryd.ntmps20
  go_wp2_with fail
  go_ret
  exact ⟨rfl, HB0.out⟩

set_option maxHeartbeats 1000000 in
set_option maxRecDepth 100000 in
theorem vcompare_lmin (a b : Ver) (w : World) (hmaj : a.maj = b.maj) (h : a.min < b.min) : Calls Tryd.prog 20 #[.agg a.cells, .agg b.cells] w (CmpOut (-1) w) := by
  have hb0 : Below w.heap.size w ((w.alloc (.cells a.cells 40)).alloc (.cells b.cells 40)) := ((Below.refl _ _).alloc (Nat.le_refl _) _).alloc (by simp) _
  have HB0 := hide hb0
  clear hb0
  have g0 : decide (b.maj < a.maj) = false := decide_eq_false (by omega)
  have g1 : decide (a.maj < b.maj) = false := decide_eq_false (by omega)
  have g9 : decide (b.min < a.min) = false := decide_eq_false (by omega)
  clear hmaj
  unfold Ver.cells at *
  go_enter Tryd.func20, Tryd.ntmps20
  go_wp2_with fail
  go_ret
  exact ⟨rfl, HB0.out⟩

set_option maxHeartbeats 1000000 in
set_option maxRecDepth 100000 in
theorem vcompare_gpat (a b : Ver) (w : World) (hmaj : a.maj = b.maj) (hmin : a.min = b.min) (h : b.pat < a.pat) : Calls Tryd.prog 20 #[.agg a.cells, .agg b.cells] w (CmpOut (1) w) := by
  have hb0 : Below w.heap.size w ((w.alloc (.cells a.cells 40)).alloc (.cells b.cells 40)) := ((Below.refl _ _).alloc (Nat.le_refl _) _).alloc (by simp) _
  have HB0 := hide hb0
  clear hb0
  have g0 : decide (b.maj < a.maj) = false := decide_eq_false (by omega)
  have g1 : decide (a.maj < b.maj) = false := decide_eq_false (by omega)
  have g2 : decide (b.min < a.min) = false := decide_eq_false (by omega)
  have g3 : decide (a.min < b.min) = false := decide_eq_false (by omega)
  clear hmaj hmin
  unfold Ver.cells at *
  go_enter Tryd.func20, Tryd.ntmps20
  go_wp2_with fail
  go_ret
  exact ⟨rfl, HB0.out⟩

set_option maxHeartbeats 1000000 in
set_option maxRecDepth 100000 in
theorem vcompare_lpat (a b : Ver) (w : World) (hmaj : a.maj = b.maj) (hmin : a.min = b.min) (h : a.pat < b.pat) : Calls Tryd.prog 20 #[.agg a.cells, .agg b.cells] w (CmpOut (-1) w) := by
  have hb0 : Below w.heap.size w ((w.alloc (.cells a.cells 40)).alloc (.cells b.cells 40)) := ((Below.refl _ _).alloc (Nat.le_refl _) _).alloc (by simp) _
  have HB0 := hide hb0
  clear hb0
  have g0 : decide (b.maj < a.maj) = false := decide_eq_false (by omega)
  have g1 : decide (a.maj < b.maj) = false := decide_eq_false (by omega)
  have g2 : decide (b.min < a.min) = false := decide_eq_false (by omega)
  have g3 : decide (a.min < b.min) = false := decide_eq_false (by omega)
  have g9 : decide (b.pat < a.pat) = false := decide_eq_false (by omega)
  clear hmaj hmin
  unfold Ver.cells at *
  go_enter Tryd.func20, Tryd.ntmps20
  go_wp2_with fail
  go_ret
  exact ⟨rfl, HB0.out⟩

set_option maxHeartbeats 1000000 in
set_option maxRecDepth 100000 in
theorem vcompare_pe (a b : Ver) (w : World) (hmaj : a.maj = b.maj) (hmin : a.min = b.min) (hpat : a.pat = b.pat) (he : (a.pre == b.pre) = true) : Calls Tryd.prog 20 #[.agg a.cells, .agg b.cells] w (CmpOut (0) w) := by
  have hb0 : Below w.heap.size w ((w.alloc (.cells a.cells 40)).alloc (.cells b.cells 40)) := ((Below.refl _ _).alloc (Nat.le_refl _) _).alloc (by simp) _
  have HB0 := hide hb0
  clear hb0
  have g0 : decide (b.maj < a.maj) = false := decide_eq_false (by omega)
  have g1 : decide (a.maj < b.maj) = false := decide_eq_false (by omega)
  have g2 : decide (b.min < a.min) = false := decide_eq_false (by omega)
  have g3 : decide (a.min < b.min) = false := decide_eq_false (by omega)
  have g4 : decide (b.pat < a.pat) = false := decide_eq_false (by omega)
  have g5 : decide (a.pat < b.pat) = false := decide_eq_false (by omega)
  clear hmaj hmin hpat
  unfold Ver.cells at *
  go_enter Tryd.func20, Tryd.ntmps20
  go_wp2_with fail
  go_ret
  exact ⟨rfl, HB0.out⟩

set_option maxHeartbeats 1000000 in
set_option maxRecDepth 100000 in
theorem vcompare_ae (a b : Ver) (w : World) (hmaj : a.maj = b.maj) (hmin : a.min = b.min) (hpat : a.pat = b.pat) (he : (a.pre == b.pre) = false) (hae : a.pre.isEmpty = true) (hbe : b.pre.isEmpty = false) : Calls Tryd.prog 20 #[.agg a.cells, .agg b.cells] w (CmpOut (1) w) := by
  have hb0 : Below w.heap.size w ((w.alloc (.cells a.cells 40)).alloc (.cells b.cells 40)) := ((Below.refl _ _).alloc (Nat.le_refl _) _).alloc (by simp) _
  have HB0 := hide hb0
  clear hb0
  have g0 : decide (b.maj < a.maj) = false := decide_eq_false (by omega)
  have g1 : decide (a.maj < b.maj) = false := decide_eq_false (by omega)
  have g2 : decide (b.min < a.min) = false := decide_eq_false (by omega)
  have g3 : decide (a.min < b.min) = false := decide_eq_false (by omega)
  have g4 : decide (b.pat < a.pat) = false := decide_eq_false (by omega)
  have g5 : decide (a.pat < b.pat) = false := decide_eq_false (by omega)
  clear hmaj hmin hpat
  unfold Ver.cells at *
  go_enter Tryd.func20, Tryd.ntmps20
  go_wp2_with fail
  go_ret
  exact ⟨rfl, HB0.out⟩

set_option maxHeartbeats 1000000 in
set_option maxRecDepth 100000 in
theorem vcompare_be (a b : Ver) (w : World) (hmaj : a.maj = b.maj) (hmin : a.min = b.min) (hpat : a.pat = b.pat) (he : (a.pre == b.pre) = false) (hae : a.pre.isEmpty = false) (hbe : b.pre.isEmpty = true) : Calls Tryd.prog 20 #[.agg a.cells, .agg b.cells] w (CmpOut (-1) w) := by
  have hb0 : Below w.heap.size w ((w.alloc (.cells a.cells 40)).alloc (.cells b.cells 40)) := ((Below.refl _ _).alloc (Nat.le_refl _) _).alloc (by simp) _
  have HB0 := hide hb0
  clear hb0
  have g0 : decide (b.maj < a.maj) = false := decide_eq_false (by omega)
  have g1 : decide (a.maj < b.maj) = false := decide_eq_false (by omega)
  have g2 : decide (b.min < a.min) = false := decide_eq_false (by omega)
  have g3 : decide (a.min < b.min) = false := decide_eq_false (by omega)
  have g4 : decide (b.pat < a.pat) = false := decide_eq_false (by omega)
  have g5 : decide (a.pat < b.pat) = false := decide_eq_false (by omega)
  clear hmaj hmin hpat
  unfold Ver.cells at *
  go_enter Tryd.func20, Tryd.ntmps20
  go_wp2_with fail
  go_ret
  exact ⟨rfl, HB0.out⟩

theorem vcompare_any (a b : Ver) (w : World) (ha : a.pre.length ≤ 8589934591) (hb : b.pre.length ≤ 8589934591) (hpa : properB a = true) (hpb : properB b = true) : Calls Tryd.prog 20 #[.agg a.cells, .agg b.cells] w (CmpOut (verC a b) w) := by
  rcases Int.lt_trichotomy a.maj b.maj with h | hmaj | h
  · have e : verC a b = -1 := by unfold verC; rw [show sgn a.maj b.maj = -1 by unfold sgn; rw [if_pos h]]; rfl
    rw [e]; exact vcompare_lmaj a b w h
  rotate_left
  · have e : verC a b = 1 := by unfold verC; rw [show sgn a.maj b.maj = 1 by unfold sgn; rw [if_neg (by omega), if_pos h]]; rfl
    rw [e]; exact vcompare_gmaj a b w h
  have s0 : sgn a.maj b.maj = 0 := by rw [hmaj]; simp [sgn]
  rcases Int.lt_trichotomy a.min b.min with h | hmin | h
  · have e : verC a b = -1 := by unfold verC; rw [s0, show sgn a.min b.min = -1 by unfold sgn; rw [if_pos h]]; rfl
    rw [e]; exact vcompare_lmin a b w hmaj h
  rotate_left
  · have e : verC a b = 1 := by unfold verC; rw [s0, show sgn a.min b.min = 1 by unfold sgn; rw [if_neg (by omega), if_pos h]]; rfl
    rw [e]; exact vcompare_gmin a b w hmaj h
  have s1 : sgn a.min b.min = 0 := by rw [hmin]; simp [sgn]
  rcases Int.lt_trichotomy a.pat b.pat with h | hpat | h
  · have e : verC a b = -1 := by unfold verC; rw [s0, s1, show sgn a.pat b.pat = -1 by unfold sgn; rw [if_pos h]]; rfl
    rw [e]; exact vcompare_lpat a b w hmaj hmin h
  rotate_left
  · have e : verC a b = 1 := by unfold verC; rw [s0, s1, show sgn a.pat b.pat = 1 by unfold sgn; rw [if_neg (by omega), if_pos h]]; rfl
    rw [e]; exact vcompare_gpat a b w hmaj hmin h
  have s2 : sgn a.pat b.pat = 0 := by rw [hpat]; simp [sgn]
  have hv : verC a b = preC a.pre b.pre := by unfold verC; rw [s0, s1, s2]; rfl
  by_cases he : a.pre = b.pre
  · have e : verC a b = 0 := by rw [hv]; unfold preC; rw [if_pos he]
    rw [e]; exact vcompare_pe a b w hmaj hmin hpat (by simpa using he)
  · have he2 : (a.pre == b.pre) = false := beq_eq_false_iff_ne.2 he
    by_cases hae : a.pre = []
    · have hbe : ¬ b.pre = [] := fun e => he (by rw [hae, e])
      have e : verC a b = 1 := by rw [hv]; unfold preC; rw [if_neg he, if_pos hae]
      rw [e]; exact vcompare_ae a b w hmaj hmin hpat he2 (by simpa using hae) (by simpa using hbe)
    · by_cases hbe : b.pre = []
      · have e : verC a b = -1 := by rw [hv]; unfold preC; rw [if_neg he, if_neg hae, if_pos hbe]
        rw [e]; exact vcompare_be a b w hmaj hmin hpat he2 (by simpa using hae) (by simpa using hbe)
      · exact vcompare_pre a b w _ (((Below.refl _ _).alloc (Nat.le_refl _) _).alloc (by simp) _) ha hb hpa hpb hmaj hmin hpat rfl he (by simpa using hae) (by simpa using hbe)
end Go.Proofs.YtaoeelhgfdknfaaDoor
