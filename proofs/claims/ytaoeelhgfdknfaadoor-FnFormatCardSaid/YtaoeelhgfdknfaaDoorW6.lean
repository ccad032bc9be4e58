/- The walk of spec.Compare. No condition but sizes. -/
import Derived.Test.YtaoeelhgfdknfaaDoorW5
import Derived.Deep.RegionLaw
import Derived.BigQuiet
import Derived.Deep.RegionHeld3
import Derived.Deep.QuietTactic
namespace Go.Proofs.YtaoeelhgfdknfaaDoor
open Go.RowKit

attribute [local go_sem] S_size S_toList E_toList S_extract

theorem idsC_end : ∀ (j : Nat) (X Y : List Bs), j = Nat.min X.length Y.length → idsC (X.drop j) (Y.drop j) = sgn X.length Y.length
  | 0, [], [], _ => rfl
  | 0, [], y :: Y, _ => by simp [idsC, sgn]; try omega
  | 0, x :: X, [], _ => by simp [idsC, sgn]; try omega
  | 0, x :: X, y :: Y, h => by simp [Nat.min_def] at h; split at h <;> omega
  | j + 1, [], _, h => by simp at h
  | j + 1, x :: X, [], h => by simp at h
  | j + 1, x :: X, y :: Y, h => by
    have h1 := idsC_end j X Y (by simp only [List.length_cons, Nat.min_def] at h ⊢; split at h <;> split <;> omega)
    rw [List.drop_succ_cons, List.drop_succ_cons, h1]
    simp only [List.length_cons, sgn]
    split <;> split <;> (try split) <;> (try split) <;> omega
theorem idsC_step {X Y : List Bs} {j : Nat} {x y : Bs} (hx : X[j]? = some x) (hy : Y[j]? = some y) : idsC (X.drop j) (Y.drop j) = if identC x y ≠ 0 then identC x y else idsC (X.drop (j + 1)) (Y.drop (j + 1)) := by
  rw [drop_at hx, drop_at hy]; rfl
theorem short_mem {l : Bs} (h : shortB l = true) {x : Bs} (hx : x ∈ dots l) (hd : digitsB x = true) : x.length ≤ 18 := by
  unfold shortB at h
  rw [List.all_eq_true] at h
  have := h x hx
  rw [hd] at this
  simp at this
  omega

/-- What a comparison hands back. -/
def CmpOut (r : Int) (w : World) (e : Ending) (w' : World) : Prop := e = .returned (.int .i64 r) ∧ Below w.heap.size w w'

set_option maxHeartbeats 1000000 in
set_option maxRecDepth 100000 in
theorem scompare_any (a b : Ver) (w : World) (ha : a.pre.length ≤ 8589934591) (hb : b.pre.length ≤ 8589934591) (hsa : shortB a.pre = true) (hsb : shortB b.pre = true) :
    Calls Tryd.prog 11 #[.agg a.cells, .agg b.cells] w (CmpOut (verC a b) w) := by
  obtain ⟨W0, hW0⟩ : ∃ W0, (w.alloc (.cells a.cells 26)).alloc (.cells b.cells 26) = W0 := ⟨_, rfl⟩
  have hb0 : Below w.heap.size w W0 := by rw [← hW0]; exact ((Below.refl _ _).alloc (Nat.le_refl _) _).alloc (by simp) _
  have hA0 : Blk W0 w.heap.size 26 a.cells := by rw [← hW0]; exact (Blk.new _ _ _).alloc _
  have hB0 : Blk W0 (w.heap.size + 1) 26 b.cells := by rw [← hW0]; exact Blk.new_ _ _ _ (by simp)
  have HB0 := hide hb0
  have HA := hide hA0
  have HBB := hide hB0
  have HW0 := hide hW0
  have HSA := hide hsa
  have HSB := hide hsb
  clear hb0 hA0 hB0 hW0 hsa hsb
  unfold Ver.cells at *
  go_enter Tryd.func11, Tryd.ntmps11
  go_wp2_with fail
  rw [HW0.out]
  have a0 : W0.cell? ⟨w.heap.size, 0, none⟩ = some (.int .i64 a.maj) := by rw [HA.out.cell]; rfl
  have a1 : W0.cell? ⟨w.heap.size, 1, none⟩ = some (.int .i64 a.min) := by rw [HA.out.cell]; rfl
  have a2 : W0.cell? ⟨w.heap.size, 2, none⟩ = some (.int .i64 a.pat) := by rw [HA.out.cell]; rfl
  have b0 : W0.cell? ⟨w.heap.size + 1, 0, none⟩ = some (.int .i64 b.maj) := by rw [HBB.out.cell]; rfl
  have b1 : W0.cell? ⟨w.heap.size + 1, 1, none⟩ = some (.int .i64 b.min) := by rw [HBB.out.cell]; rfl
  have b2 : W0.cell? ⟨w.heap.size + 1, 2, none⟩ = some (.int .i64 b.pat) := by rw [HBB.out.cell]; rfl
  go_region_held3 (fun w' => w'.cell? ⟨w.heap.size, 0, none⟩ = some (.int .i64 a.maj) ∧ w'.cell? ⟨w.heap.size, 1, none⟩ = some (.int .i64 a.min) ∧ w'.cell? ⟨w.heap.size, 2, none⟩ = some (.int .i64 a.pat) ∧ w'.cell? ⟨w.heap.size + 1, 0, none⟩ = some (.int .i64 b.maj) ∧ w'.cell? ⟨w.heap.size + 1, 1, none⟩ = some (.int .i64 b.min) ∧ w'.cell? ⟨w.heap.size + 1, 2, none⟩ = some (.int .i64 b.pat)) (go_keep)
    (first
      | (go_at_call 21; refine (sign_any _ _ _).mono ?_; rintro e w' ⟨rfl, rfl⟩)
      | fail)
  obtain ⟨W1, hW1⟩ : ∃ W1, (W0.alloc (.cells #[.int .i64 (sgn a.maj b.maj), .int .i64 (sgn a.min b.min), .int .i64 (sgn a.pat b.pat)] 3)).drew = W1 := ⟨_, rfl⟩
  have hg1 : Chg (fun _ => False) W0 W1 := by rw [← hW1]; exact ((Chg.refl _ W0).alloc _).drew
  have hs1 : Blk W1 W0.heap.size 3 #[.int .i64 (sgn a.maj b.maj), .int .i64 (sgn a.min b.min), .int .i64 (sgn a.pat b.pat)] := by rw [← hW1]; exact Blk.drew (Blk.new _ _ _)
  rw [hW1]
  have HB1 : Hid (Below w.heap.size w W1) := HB0.out.trans (hg1.toBelow.mono HB0.out.size)
  have HA1 : Hid (Blk W1 w.heap.size 26 #[.int .i64 a.maj, .int .i64 a.min, .int .i64 a.pat, .string (S a.pre), .string (S a.met)]) := HA.out.chg hg1 (fun h => h)
  have HBB1 : Hid (Blk W1 (w.heap.size + 1) 26 #[.int .i64 b.maj, .int .i64 b.min, .int .i64 b.pat, .string (S b.pre), .string (S b.met)]) := HBB.out.chg hg1 (fun h => h)
  have k0 : W1.cell? ⟨W0.heap.size, 0, none⟩ = some (.int .i64 (sgn a.maj b.maj)) := by rw [hs1.cell]; rfl
  have k1 : W1.cell? ⟨W0.heap.size, 1, none⟩ = some (.int .i64 (sgn a.min b.min)) := by rw [hs1.cell]; rfl
  have k2 : W1.cell? ⟨W0.heap.size, 2, none⟩ = some (.int .i64 (sgn a.pat b.pat)) := by rw [hs1.cell]; rfl
  have a3 : W1.cell? ⟨w.heap.size, 3, none⟩ = some (.string (S a.pre)) := by rw [HA1.out.cell]; rfl
  have b3 : W1.cell? ⟨w.heap.size + 1, 3, none⟩ = some (.string (S b.pre)) := by rw [HBB1.out.cell]; rfl
  have HR : Hid (verC a b = if sgn a.maj b.maj ≠ 0 then sgn a.maj b.maj else if sgn a.min b.min ≠ 0 then sgn a.min b.min else if sgn a.pat b.pat ≠ 0 then sgn a.pat b.pat else preC a.pre b.pre) := by show _ = _; rfl
  clear hg1 hs1 hW1 a0 a1 a2 b0 b1 b2
  generalize sgn a.maj b.maj = s0 at *
  generalize sgn a.min b.min = s1 at *
  generalize sgn a.pat b.pat = s2 at *
  by_cases h0 : s0 = 0
  rotate_left
  · have hr : verC a b = s0 := by rw [HR.out, if_pos h0]
    have HR2 := hide hr
    clear hr
    have t0 : (s0 != 0) = true := by rw [bne_iff_ne]; exact h0
    clear h0
    go_wp2
    refine wp_loop_rounds 1 ?_
    rw [rounds_succ]
    go_wp2
    go_ret
    exact ⟨by rw [HR2.out]; rfl, HB1.out⟩
  by_cases h1 : s1 = 0
  rotate_left
  · have hr : verC a b = s1 := by rw [HR.out, if_neg (by simp [h0]), if_pos h1]
    have HR2 := hide hr
    clear hr
    have t1 : (s1 != 0) = true := by rw [bne_iff_ne]; exact h1
    clear h1
    subst h0
    go_wp2
    refine wp_loop_rounds 2 ?_
    rw [rounds_succ]
    go_wp2
    rw [rounds_succ]
    go_wp2
    go_ret
    exact ⟨by rw [HR2.out]; rfl, HB1.out⟩
  by_cases h2 : s2 = 0
  rotate_left
  · have hr : verC a b = s2 := by rw [HR.out, if_neg (by simp [h0]), if_neg (by simp [h1]), if_pos h2]
    have HR2 := hide hr
    clear hr
    have t2 : (s2 != 0) = true := by rw [bne_iff_ne]; exact h2
    clear h2
    subst h0
    subst h1
    go_wp2
    refine wp_loop_rounds 3 ?_
    rw [rounds_succ]
    go_wp2
    rw [rounds_succ]
    go_wp2
    rw [rounds_succ]
    go_wp2
    go_ret
    exact ⟨by rw [HR2.out]; rfl, HB1.out⟩
  have hr : verC a b = preC a.pre b.pre := by rw [HR.out, if_neg (by simp [h0]), if_neg (by simp [h1]), if_neg (by simp [h2])]
  have HR2 := hide hr
  clear hr
  subst h0
  subst h1
  subst h2
  go_wp2
  refine wp_loop_rounds 4 ?_
  rw [rounds_succ]
  go_wp2
  rw [rounds_succ]
  go_wp2
  rw [rounds_succ]
  go_wp2
  rw [rounds_succ]
  cases he : (a.pre == b.pre)
  rotate_left
  · have hr : verC a b = 0 := by rw [HR2.out]; unfold preC; rw [if_pos (by simpa using he)]
    have HR3 := hide hr
    clear hr
    go_wp2
    go_ret
    exact ⟨by rw [HR3.out]; rfl, HB1.out⟩
  have hne : ¬ a.pre = b.pre := by rw [beq_eq_false_iff_ne] at he; exact he
  cases hae : a.pre.isEmpty
  rotate_left
  · have hr : verC a b = 1 := by rw [HR2.out]; unfold preC; rw [if_neg hne, if_pos (by simpa using hae)]
    have HR3 := hide hr
    clear hr hne
    go_wp2
    go_ret
    exact ⟨by rw [HR3.out]; rfl, HB1.out⟩
  have hae2 : ¬ a.pre = [] := by rw [← List.isEmpty_iff, hae]; decide
  cases hbe : b.pre.isEmpty
  rotate_left
  · have hr : verC a b = -1 := by rw [HR2.out]; unfold preC; rw [if_neg hne, if_neg hae2, if_pos (by simpa using hbe)]
    have HR3 := hide hr
    clear hr hne hae2
    go_wp2
    go_ret
    exact ⟨by rw [HR3.out]; rfl, HB1.out⟩
  have hbe2 : ¬ b.pre = [] := by rw [← List.isEmpty_iff, hbe]; decide
  have hr : verC a b = idsC (dots a.pre) (dots b.pre) := by rw [HR2.out]; unfold preC; rw [if_neg hne, if_neg hae2, if_neg hbe2]
  have HR3 := hide hr
  clear hr hne hae2 hbe2
  go_wp2
  go_region_held3 (fun w' => w'.cell? ⟨w.heap.size, 3, none⟩ = some (.string (S a.pre)) ∧ w'.cell? ⟨w.heap.size + 1, 3, none⟩ = some (.string (S b.pre))) (first | exact ⟨a3y, b3y⟩ | exact ⟨a3x, b3x⟩ | go_keep)
    (first
      | (go_at_call 22
         with_reducible refine (split_any a.pre _ (by omega)).mono ?_
         rintro e wa ⟨A1, c1, rfl, hr1, _, _, hb1⟩
         have hza : Blk wa w.heap.size 26 _ := (Blk.drew HA1.out).below hb1 HA1.out.lt
         have hzb : Blk wa (w.heap.size + 1) 26 _ := (Blk.drew HBB1.out).below hb1 HBB1.out.lt
         have a3x : wa.cell? ⟨w.heap.size, 3, none⟩ = some (.string (S a.pre)) := by rw [hza.cell]; rfl
         have b3x : wa.cell? ⟨w.heap.size + 1, 3, none⟩ = some (.string (S b.pre)) := by rw [hzb.cell]; rfl
         have HR1 := hide hr1
         have HBA := hide hb1
         have HZA := hide hza
         have HZB := hide hzb
         clear hr1 hb1 hza hzb)
      | (go_at_call 22
         with_reducible refine (split_any b.pre _ (by omega)).mono ?_
         rintro e wb ⟨A2, c2, rfl, hr2, _, _, hb2⟩
         have hza : Blk wb w.heap.size 26 _ := HZA.out.below hb2 HZA.out.lt
         have hzb : Blk wb (w.heap.size + 1) 26 _ := HZB.out.below hb2 HZB.out.lt
         have a3y : wb.cell? ⟨w.heap.size, 3, none⟩ = some (.string (S a.pre)) := by rw [hza.cell]; rfl
         have b3y : wb.cell? ⟨w.heap.size + 1, 3, none⟩ = some (.string (S b.pre)) := by rw [hzb.cell]; rfl
         have HRB := hide hr2
         have HBB2 := hide hb2
         clear hr2 hb2 hza hzb)
      | fail)
  have hRA : Reads wb (fun _ => True) 1 A1 (dots a.pre).length (strs (dots a.pre)) := (HR1.out.below HBB2.out).more (fun _ _ _ => trivial)
  have hRB : Reads wb (fun _ => True) 1 A2 (dots b.pre).length (strs (dots b.pre)) := HRB.out.more (fun _ _ _ => trivial)
  have hBF : Below w.heap.size w wb := (Chg.ofBelow HB1.out (fun _ => False)).drew.toBelow.trans ((HBA.out.mono (by have := HB1.out.size; simp; omega)).trans (HBB2.out.mono (by have := HBA.out.size; have := HB1.out.size; simp at *; omega)))
  have hla := dots_length a.pre
  have hlb := dots_length b.pre
  have hma : ∀ x ∈ dots a.pre, x.length ≤ 8589934591 := fun x hx => by have := (dots_mem a.pre x hx).2; omega
  have hmb : ∀ x ∈ dots b.pre, x.length ≤ 8589934591 := fun x hx => by have := (dots_mem b.pre x hx).2; omega
  have h18a : ∀ x ∈ dots a.pre, digitsB x = true → x.length ≤ 18 := fun x hx => short_mem HSA.out hx
  have h18b : ∀ x ∈ dots b.pre, digitsB x = true → x.length ≤ 18 := fun x hx => short_mem HSB.out hx
  have HMA := hide hma
  have HMB := hide hmb
  have H18A := hide h18a
  have H18B := hide h18b
  have HXA := hide hRA
  have HXB := hide hRB
  have HF := hide hBF
  clear hma hmb h18a h18b hRA hRB hBF
  generalize hX : dots a.pre = X at *
  generalize hY : dots b.pre = Y at *
  clear hX hY
  obtain ⟨n, hn⟩ : ∃ n, n = X.length := ⟨_, rfl⟩
  obtain ⟨m, hm⟩ : ∃ m, m = Y.length := ⟨_, rfl⟩
  rw [← hn] at HXA hla ⊢
  rw [← hm] at HXB hlb ⊢
  have HN := hide hn
  have HMM := hide hm
  clear hn hm
  by_cases hmn : m < n
  · go_wp2
    go_loopw [61] (fun i wr => ∃ j : Nat, j ≤ m ∧ i = .int .i64 j ∧ Hid (∃ q, wr = wb.drewN q) ∧ Hid (verC a b = idsC (X.drop j) (Y.drop j))) (fun i _ => m - (intOf i).toNat)
    case atStart => exact ⟨0, Nat.zero_le _, rfl, ⟨0, rfl⟩, HR3.out⟩
    case round =>
      obtain ⟨j, hj, rfl, HWR, HI⟩ := hrel
      have HXA2 : Hid (Reads wr (fun _ => True) 1 A1 n (strs X)) := by obtain ⟨q, e⟩ := HWR.out; rw [e]; exact HXA.out.drewN q
      have HXB2 : Hid (Reads wr (fun _ => True) 1 A2 m (strs Y)) := by obtain ⟨q, e⟩ := HWR.out; rw [e]; exact HXB.out.drewN q
      have HF2 : Hid (Below w.heap.size w wr) := by obtain ⟨q, e⟩ := HWR.out; rw [e]; exact ((Chg.ofBelow HF.out (fun _ => False)).drewN q).toBelow
      by_cases hlt : j < m
      · obtain ⟨ad, u, rfl, _, hx, hcx⟩ := HXA2.out.at_ (k := j) (by omega)
        obtain ⟨x, hxx, rfl⟩ := strs_at hx
        obtain ⟨ad2, u2, rfl, _, hy, hcy⟩ := HXB2.out.at_ (k := j) (by omega)
        obtain ⟨y, hyy, rfl⟩ := strs_at hy
        have hid : ∀ W, Calls Tryd.prog 23 #[.string (S x), .string (S y)] W fun e w' => e = .returned (.int .i64 (identC x y)) ∧ w' = W := fun W => identifier_any x y W (by have := HMA.out x (mem_at hxx); omega) (by have := HMB.out y (mem_at hyy); omega) (fun h1 h2 => ⟨H18A.out x (mem_at hxx) h1, H18B.out y (mem_at hyy) h2⟩)
        have hstep : verC a b = if identC x y ≠ 0 then identC x y else idsC (X.drop (j + 1)) (Y.drop (j + 1)) := by rw [HI.out, idsC_step hxx hyy]
        have HID := hide hid
        have HSTEP := hide hstep
        have hjn : (j : Int) < (n : Int) := by omega
        have hjm : (j : Int) < (m : Int) := by omega
        have hj0 : (0 : Int) ≤ (j : Int) := by omega
        clear hid hstep hx hy hxx hyy
        obtain ⟨v, hv⟩ : ∃ v, v = identC x y := ⟨_, rfl⟩
        rw [← hv] at HID HSTEP
        clear hv
        by_cases hv0 : v = 0
        · subst hv0
          have HN2 : Hid (verC a b = idsC (X.drop (j + 1)) (Y.drop (j + 1))) := by show _ = _; rw [HSTEP.out, if_neg (by simp)]
          go_wp2
          go_quiet ((go_at_call 23; exact Calls.quiet_of_same (HID.out _)))
          go_wp2
          go_roundw
          case measure => simp [intOf]; omega
          case rel => exact ⟨j + 1, by omega, by go_num, by obtain ⟨q, e⟩ := HWR.out; rw [e]; exact ⟨_, World.drewN_drewN _ _ _⟩, HN2⟩
        · have HN2 : Hid (verC a b = v) := by show _ = _; rw [HSTEP.out, if_pos hv0]
          have hv1 : (v != 0) = true := by rw [bne_iff_ne]; exact hv0
          clear hv0
          go_wp2
          go_quiet ((go_at_call 23; exact Calls.quiet_of_same (HID.out _)))
          go_wp2
          go_ret
          exact ⟨by rw [HN2.out]; rfl, ((Chg.ofBelow HF2.out (fun _ => False)).drewN _).toBelow⟩
      · have hjk : j = m := by omega
        have hfin : verC a b = sgn (n : Int) (m : Int) := by
          rw [HI.out, hjk, idsC_end m X Y (by have h1 := HN.out; have h2 := HMM.out; simp only [Nat.min_def]; split <;> omega), HN.out, HMM.out]
        have HFIN := hide hfin
        clear hfin hjk
        go_wp2_with fail
        refine (sign_any _ _ _).mono ?_
        rintro e w9 ⟨rfl, rfl⟩
        go_wp2
        go_ret
        exact ⟨by rw [HFIN.out]; rfl, HF2.out⟩
  · go_wp2
    go_loopw [61] (fun i wr => ∃ j : Nat, j ≤ n ∧ i = .int .i64 j ∧ Hid (∃ q, wr = wb.drewN q) ∧ Hid (verC a b = idsC (X.drop j) (Y.drop j))) (fun i _ => n - (intOf i).toNat)
    case atStart => exact ⟨0, Nat.zero_le _, rfl, ⟨0, rfl⟩, HR3.out⟩
    case round =>
      obtain ⟨j, hj, rfl, HWR, HI⟩ := hrel
      have HXA2 : Hid (Reads wr (fun _ => True) 1 A1 n (strs X)) := by obtain ⟨q, e⟩ := HWR.out; rw [e]; exact HXA.out.drewN q
      have HXB2 : Hid (Reads wr (fun _ => True) 1 A2 m (strs Y)) := by obtain ⟨q, e⟩ := HWR.out; rw [e]; exact HXB.out.drewN q
      have HF2 : Hid (Below w.heap.size w wr) := by obtain ⟨q, e⟩ := HWR.out; rw [e]; exact ((Chg.ofBelow HF.out (fun _ => False)).drewN q).toBelow
      by_cases hlt : j < n
      · obtain ⟨ad, u, rfl, _, hx, hcx⟩ := HXA2.out.at_ (k := j) (by omega)
        obtain ⟨x, hxx, rfl⟩ := strs_at hx
        obtain ⟨ad2, u2, rfl, _, hy, hcy⟩ := HXB2.out.at_ (k := j) (by omega)
        obtain ⟨y, hyy, rfl⟩ := strs_at hy
        have hid : ∀ W, Calls Tryd.prog 23 #[.string (S x), .string (S y)] W fun e w' => e = .returned (.int .i64 (identC x y)) ∧ w' = W := fun W => identifier_any x y W (by have := HMA.out x (mem_at hxx); omega) (by have := HMB.out y (mem_at hyy); omega) (fun h1 h2 => ⟨H18A.out x (mem_at hxx) h1, H18B.out y (mem_at hyy) h2⟩)
        have hstep : verC a b = if identC x y ≠ 0 then identC x y else idsC (X.drop (j + 1)) (Y.drop (j + 1)) := by rw [HI.out, idsC_step hxx hyy]
        have HID := hide hid
        have HSTEP := hide hstep
        have hjn : (j : Int) < (n : Int) := by omega
        have hjm : (j : Int) < (m : Int) := by omega
        have hj0 : (0 : Int) ≤ (j : Int) := by omega
        clear hid hstep hx hy hxx hyy
        obtain ⟨v, hv⟩ : ∃ v, v = identC x y := ⟨_, rfl⟩
        rw [← hv] at HID HSTEP
        clear hv
        by_cases hv0 : v = 0
        · subst hv0
          have HN2 : Hid (verC a b = idsC (X.drop (j + 1)) (Y.drop (j + 1))) := by show _ = _; rw [HSTEP.out, if_neg (by simp)]
          go_wp2
          go_quiet ((go_at_call 23; exact Calls.quiet_of_same (HID.out _)))
          go_wp2
          go_roundw
          case measure => simp [intOf]; omega
          case rel => exact ⟨j + 1, by omega, by go_num, by obtain ⟨q, e⟩ := HWR.out; rw [e]; exact ⟨_, World.drewN_drewN _ _ _⟩, HN2⟩
        · have HN2 : Hid (verC a b = v) := by show _ = _; rw [HSTEP.out, if_pos hv0]
          have hv1 : (v != 0) = true := by rw [bne_iff_ne]; exact hv0
          clear hv0
          go_wp2
          go_quiet ((go_at_call 23; exact Calls.quiet_of_same (HID.out _)))
          go_wp2
          go_ret
          exact ⟨by rw [HN2.out]; rfl, ((Chg.ofBelow HF2.out (fun _ => False)).drewN _).toBelow⟩
      · have hjk : j = n := by omega
        have hfin : verC a b = sgn (n : Int) (m : Int) := by
          rw [HI.out, hjk, idsC_end n X Y (by have h1 := HN.out; have h2 := HMM.out; simp only [Nat.min_def]; split <;> omega), HN.out, HMM.out]
        have HFIN := hide hfin
        clear hfin hjk
        go_wp2_with fail
        refine (sign_any _ _ _).mono ?_
        rintro e w9 ⟨rfl, rfl⟩
        go_wp2
        go_ret
        exact ⟨by rw [HFIN.out]; rfl, HF2.out⟩
end Go.Proofs.YtaoeelhgfdknfaaDoor
