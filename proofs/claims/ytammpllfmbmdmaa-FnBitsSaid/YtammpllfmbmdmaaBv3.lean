/- The walk of BitVector.Insert. Printed by gen_bv.py. -/
import Derived.Test.YtammpllfmbmdmaaBv2
namespace Go.Proofs.Ytammpllfmbmdmaa
open Go.RowKit

section
variable (B g : Nat) (v : Value) (n : Nat) (D : List Nat) (w : World)

set_option maxHeartbeats 1000000 in
set_option maxRecDepth 100000 in
theorem bv_insert_r1 (i k o : Nat) (hko : i = 8 * k + o) (ho : o < 8) (hin : i < n) (h : BV w B g v n D) (hn : n ≤ 100000) (_hB : B ≤ w.heap.size) (hD : k + 1 < D.length) (hg : ¬ D.length < (n + 1 + 7) / 8) (hd : D.length ≤ 10000) :
    Calls Try.prog 54 #[.pointer (some ⟨g, 0, none⟩), .int .u8 1, .int .i64 i] w fun e w' => e = .returned (.tuple #[]) ∧ BVTo B g v (n + 1) (fun D' => ∃ b', bitsB b' ++ [((D.getD k 0 / 128 : Nat) : Int)] = (bitsB (D.getD k 0)).take o ++ 1 :: (bitsB (D.getD k 0)).drop o ∧ D' = D.take k ++ b' :: shH (D.getD k 0 / 128) (D.drop (k + 1))) w w' := by
  obtain ⟨c0, c1, f0, f1⟩ := blk_two h.blk
  have hc : ∀ q, Calls Try.prog 90 #[.pointer (some ⟨g, 0, none⟩)] ((w.setCell ⟨g, 1, none⟩ (.int .i64 ((n : Int) + 1))).drewN q) fun e w' => e = .returned (.int .i64 (((n + 1 + 7) / 8 : Nat) : Int)) ∧ w' = (w.setCell ⟨g, 1, none⟩ (.int .i64 ((n : Int) + 1))).drewN q := fun q => bv_blen B g v (n + 1) D _ (by
    have h1 := h.setN (n + 1)
    exact ⟨h1.blk, h1.row, h1.lt⟩) (by omega)
  have ha := bv_assert B g v n D w i h (by omega) (by omega)
  obtain ⟨r, cap, rfl, hcap1, hcap2, hrg, hx, hfx, hlt⟩ := h.at_ k (by omega)
  have hq : (i : Int) / 8 = k := by omega
  have hr : (i : Int) % 8 = o := by omega
  have hk2 : k ≤ 100000 := by omega
  have hEl : (D.drop (k + 1)).length = D.length - (k + 1) := by simp
  have hPl : (D.take k).length = k := by rw [List.length_take]; omega
  have hD9 : k < D.length := by omega
  obtain ⟨b', hb1, hb2⟩ := byte_ins1 ⟨D.getD k 0, hlt⟩ ⟨o, ho⟩
  have hb3 := (byte_h ⟨D.getD k 0, hlt⟩ ⟨0, by omega⟩).2
  have HB1 := hide hb1
  have HB2 := hide hb2
  have HB3 := hide hb3
  have H := hide h
  have HKO := hide hko
  have HEL := hide hEl
  have HPL := hide hPl
  have HD9 := hide hD9
  clear h hb1 hb2 hb3 hEl hPl hD9
  generalize hgb : D.getD k 0 = b at *
  have HGB := hide hgb
  clear hgb
  generalize hgm : D.length = m at *
  have HGM := hide hgm
  clear hgm
  obtain ⟨q, hqd⟩ : ∃ q, q = (n + 1 + 7) / 8 := ⟨_, rfl⟩
  rw [← hqd] at hc hg
  have hq9 : q ≤ 100000 := by omega
  clear hqd hko
  have HC := hide hc
  clear hc
  have hcne : ¬ cap = k + 1 := by omega
  go_enter Try.func54, Try.ntmps54
  go_wp2_with fail
  refine ha.mono ?_
  clear ha
  rintro e w9 ⟨rfl, rfl⟩
  go_wp2
  go_quiet ((go_at_call 90; exact Calls.quiet_of_same (HC.out _)))
  go_wp2_with fail
  have hbv : BV ((w9.setCell ⟨g, 1, none⟩ (.int .i64 ((n : Int) + 1))).drewN nq) B g (.slice (some ⟨r, 0, none⟩) m cap) (n + 1) D := by
    have h1 := H.out.setN (n + 1)
    exact ⟨h1.blk, h1.row, h1.lt⟩
  have hX : Chg (fun i => i = g ∨ (Value.slice (some ⟨r, 0, none⟩) m cap).ownBlock = some i) w9 ((w9.setCell ⟨g, 1, none⟩ (.int .i64 ((n : Int) + 1))).drewN nq) := ((Chg.refl _ w9).setCell (p := ⟨g, 1, none⟩) (fun _ => Or.inl rfl) _).drewN nq
  have e1 := HB1.out
  have HD9 : Hid (k < D.length) := by
    show k < D.length
    rw [HGM.out]; omega
  rw [e1, HB3.out]
  have hb2v := hbv.store (HGM.out.symm) k b'.val b'.isLt hrg
  rw [set_at HD9.out] at hb2v
  have hY := hX.setCell (p := ⟨r, k, none⟩) (fun _ => Or.inr rfl) (.int .u8 ((b'.val : Nat) : Int))
  generalize ((w9.setCell ⟨g, 1, none⟩ (.int .i64 ((n : Int) + 1))).drewN nq).setCell ⟨r, k, none⟩ (.int .u8 ((b'.val : Nat) : Int)) = W2 at *
  have HBV := hide hb2v
  have HY := hide hY
  have HX := hide hX
  have hb7 : b / 128 < 2 := by omega
  have hrow : W2.ownsRow B 5 1 (.slice (some ⟨r, 0, none⟩) m cap) m (bytes ((D.take k ++ [b'.val]) ++ D.drop (k + 1))) := by
    have h1 := HBV.out.row
    rw [show (D.take k ++ b'.val :: D.drop (k + 1)).length = m by (rw [← set_at HD9.out, List.length_set]; exact HGM.out)] at h1
    rw [List.append_assoc]; exact h1
  have hsh := shh_cons B W2 (b / 128) hb7 r cap m (cap - (k + 1)) (D.take k ++ [b'.val]) (D.drop (k + 1)) (by omega) (fun x hx => H.out.lt x (List.mem_of_mem_drop hx)) hrow
  rw [HEL.out, List.length_append, HPL.out, List.length_singleton] at hsh
  refine hsh.mono ?_
  clear hsh hrow
  rintro e w3 ⟨⟨y, rfl⟩, hro3, hcg3⟩
  have HR3 := hide hro3
  have HC3 := hide hcg3
  clear hro3 hcg3
  clear hbv hb2v hY hX
  go_wp2
  go_end0
  refine ⟨rfl, ⟨.slice (some ⟨r, 0, none⟩) m cap, _, ⟨?_, ?_, ?_⟩, ?_, ⟨b'.val, HB2.out, rfl⟩⟩, ?_⟩
  · exact HBV.out.blk.chg HC3.out (fun e => hrg e.symm)
  · have h1 := HR3.out
    have e3 : (D.take k ++ b'.val :: shH (b / 128) (D.drop (k + 1))).length = m := by
      rw [List.length_append, List.length_cons, shH_len, HPL.out, HEL.out]
      omega
    rw [e3]
    rw [List.append_assoc] at h1
    exact h1
  · intro x hx
    rcases List.mem_append.1 hx with hx | hx
    · exact H.out.lt x (List.mem_of_mem_take hx)
    · rcases List.mem_cons.1 hx with rfl | hx
      · exact b'.isLt
      · exact shH_lt _ _ (fun x hx => H.out.lt x (List.mem_of_mem_drop hx)) hb7 x hx
  · exact fun i hi => Or.inl hi
  · exact HY.out.trans HC3.out (fun i hi e => Or.inr (by rw [e]; rfl))

set_option maxHeartbeats 1000000 in
set_option maxRecDepth 100000 in
theorem bv_insert_e1n (i k o : Nat) (hko : i = 8 * k + o) (ho : o < 8) (hin : i < n) (h : BV w B g v n D) (hn : n ≤ 100000) (_hB : B ≤ w.heap.size) (hD : k + 1 = D.length) (hg : ¬ D.length < (n + 1 + 7) / 8) (hd : D.length ≤ 10000) (hcn : ∀ A c, v = .slice A D.length c → c ≠ k + 1) :
    Calls Try.prog 54 #[.pointer (some ⟨g, 0, none⟩), .int .u8 1, .int .i64 i] w fun e w' => e = .returned (.tuple #[]) ∧ BVTo B g v (n + 1) (fun D' => ∃ b', bitsB b' ++ [((D.getD k 0 / 128 : Nat) : Int)] = (bitsB (D.getD k 0)).take o ++ 1 :: (bitsB (D.getD k 0)).drop o ∧ D' = D.take k ++ b' :: shH (D.getD k 0 / 128) (D.drop (k + 1))) w w' := by
  obtain ⟨c0, c1, f0, f1⟩ := blk_two h.blk
  have hc : ∀ q, Calls Try.prog 90 #[.pointer (some ⟨g, 0, none⟩)] ((w.setCell ⟨g, 1, none⟩ (.int .i64 ((n : Int) + 1))).drewN q) fun e w' => e = .returned (.int .i64 (((n + 1 + 7) / 8 : Nat) : Int)) ∧ w' = (w.setCell ⟨g, 1, none⟩ (.int .i64 ((n : Int) + 1))).drewN q := fun q => bv_blen B g v (n + 1) D _ (by
    have h1 := h.setN (n + 1)
    exact ⟨h1.blk, h1.row, h1.lt⟩) (by omega)
  have ha := bv_assert B g v n D w i h (by omega) (by omega)
  obtain ⟨r, cap, rfl, hcap1, hcap2, hrg, hx, hfx, hlt⟩ := h.at_ k (by omega)
  have hcn2 := hcn _ _ rfl
  clear hcn
  have hq : (i : Int) / 8 = k := by omega
  have hr : (i : Int) % 8 = o := by omega
  have hk2 : k ≤ 100000 := by omega
  have hEl : (D.drop (k + 1)).length = D.length - (k + 1) := by simp
  have hPl : (D.take k).length = k := by rw [List.length_take]; omega
  have hD9 : k < D.length := by omega
  obtain ⟨b', hb1, hb2⟩ := byte_ins1 ⟨D.getD k 0, hlt⟩ ⟨o, ho⟩
  have hb3 := (byte_h ⟨D.getD k 0, hlt⟩ ⟨0, by omega⟩).2
  have HB1 := hide hb1
  have HB2 := hide hb2
  have HB3 := hide hb3
  have H := hide h
  have HKO := hide hko
  have HEL := hide hEl
  have HPL := hide hPl
  have HD9 := hide hD9
  clear h hb1 hb2 hb3 hEl hPl hD9
  generalize hgb : D.getD k 0 = b at *
  have HGB := hide hgb
  clear hgb
  generalize hgm : D.length = m at *
  have HGM := hide hgm
  clear hgm
  obtain ⟨q, hqd⟩ : ∃ q, q = (n + 1 + 7) / 8 := ⟨_, rfl⟩
  rw [← hqd] at hc hg
  have hq9 : q ≤ 100000 := by omega
  clear hqd hko
  have HC := hide hc
  clear hc
  subst hD
  have hcne : ¬ cap = k + 1 := hcn2
  go_enter Try.func54, Try.ntmps54
  go_wp2_with fail
  refine ha.mono ?_
  clear ha
  rintro e w9 ⟨rfl, rfl⟩
  go_wp2
  go_quiet ((go_at_call 90; exact Calls.quiet_of_same (HC.out _)))
  go_wp2_with fail
  have hbv : BV ((w9.setCell ⟨g, 1, none⟩ (.int .i64 ((n : Int) + 1))).drewN nq) B g (.slice (some ⟨r, 0, none⟩) (k + 1) cap) (n + 1) D := by
    have h1 := H.out.setN (n + 1)
    exact ⟨h1.blk, h1.row, h1.lt⟩
  have hX : Chg (fun i => i = g ∨ (Value.slice (some ⟨r, 0, none⟩) (k + 1) cap).ownBlock = some i) w9 ((w9.setCell ⟨g, 1, none⟩ (.int .i64 ((n : Int) + 1))).drewN nq) := ((Chg.refl _ w9).setCell (p := ⟨g, 1, none⟩) (fun _ => Or.inl rfl) _).drewN nq
  have e1 := HB1.out
  have HD9 : Hid (k < D.length) := by
    show k < D.length
    rw [HGM.out]; omega
  rw [e1, HB3.out]
  have hb2v := hbv.store (HGM.out.symm) k b'.val b'.isLt hrg
  rw [set_at HD9.out] at hb2v
  have hY := hX.setCell (p := ⟨r, k, none⟩) (fun _ => Or.inr rfl) (.int .u8 ((b'.val : Nat) : Int))
  generalize ((w9.setCell ⟨g, 1, none⟩ (.int .i64 ((n : Int) + 1))).drewN nq).setCell ⟨r, k, none⟩ (.int .u8 ((b'.val : Nat) : Int)) = W2 at *
  have HBV := hide hb2v
  have HY := hide hY
  have HX := hide hX
  have hb7 : b / 128 < 2 := by omega
  refine (shh_nil W2 (b / 128) _ _).mono ?_
  rintro e w3 ⟨⟨y, rfl⟩, rfl⟩
  clear hbv hb2v hY hX
  go_wp2
  go_end0
  refine ⟨rfl, ⟨.slice (some ⟨r, 0, none⟩) (k + 1) cap, _, ⟨?_, ?_, ?_⟩, ?_, ⟨b'.val, HB2.out, rfl⟩⟩, ?_⟩
  · exact HBV.out.blk
  · have e2 : D.drop (k + 1) = [] := List.drop_eq_nil_of_le (by rw [HGM.out]; omega)
    have h1 := HBV.out.row
    rw [e2] at h1 ⊢
    exact h1
  · intro x hx
    have e2 : D.drop (k + 1) = [] := List.drop_eq_nil_of_le (by rw [HGM.out]; omega)
    refine HBV.out.lt x ?_
    rw [e2] at hx ⊢
    exact hx
  · exact fun i hi => Or.inl hi
  · exact HY.out

set_option maxHeartbeats 1000000 in
set_option maxRecDepth 100000 in
theorem bv_insert_e1y (i k o : Nat) (hko : i = 8 * k + o) (ho : o < 8) (hin : i < n) (h : BV w B g v n D) (hn : n ≤ 100000) (_hB : B ≤ w.heap.size) (hD : k + 1 = D.length) (hg : ¬ D.length < (n + 1 + 7) / 8) (hd : D.length ≤ 10000) (hcn : ∀ A c, v = .slice A D.length c → c = k + 1) :
    Calls Try.prog 54 #[.pointer (some ⟨g, 0, none⟩), .int .u8 1, .int .i64 i] w fun e w' => e = .returned (.tuple #[]) ∧ BVTo B g v (n + 1) (fun D' => ∃ b', bitsB b' ++ [((D.getD k 0 / 128 : Nat) : Int)] = (bitsB (D.getD k 0)).take o ++ 1 :: (bitsB (D.getD k 0)).drop o ∧ D' = D.take k ++ b' :: shH (D.getD k 0 / 128) (D.drop (k + 1))) w w' := by
  obtain ⟨c0, c1, f0, f1⟩ := blk_two h.blk
  have hc : ∀ q, Calls Try.prog 90 #[.pointer (some ⟨g, 0, none⟩)] ((w.setCell ⟨g, 1, none⟩ (.int .i64 ((n : Int) + 1))).drewN q) fun e w' => e = .returned (.int .i64 (((n + 1 + 7) / 8 : Nat) : Int)) ∧ w' = (w.setCell ⟨g, 1, none⟩ (.int .i64 ((n : Int) + 1))).drewN q := fun q => bv_blen B g v (n + 1) D _ (by
    have h1 := h.setN (n + 1)
    exact ⟨h1.blk, h1.row, h1.lt⟩) (by omega)
  have ha := bv_assert B g v n D w i h (by omega) (by omega)
  obtain ⟨r, cap, rfl, hcap1, hcap2, hrg, hx, hfx, hlt⟩ := h.at_ k (by omega)
  have hcn2 := hcn _ _ rfl
  clear hcn
  have hq : (i : Int) / 8 = k := by omega
  have hr : (i : Int) % 8 = o := by omega
  have hk2 : k ≤ 100000 := by omega
  have hEl : (D.drop (k + 1)).length = D.length - (k + 1) := by simp
  have hPl : (D.take k).length = k := by rw [List.length_take]; omega
  have hD9 : k < D.length := by omega
  obtain ⟨b', hb1, hb2⟩ := byte_ins1 ⟨D.getD k 0, hlt⟩ ⟨o, ho⟩
  have hb3 := (byte_h ⟨D.getD k 0, hlt⟩ ⟨0, by omega⟩).2
  have HB1 := hide hb1
  have HB2 := hide hb2
  have HB3 := hide hb3
  have H := hide h
  have HKO := hide hko
  have HEL := hide hEl
  have HPL := hide hPl
  have HD9 := hide hD9
  clear h hb1 hb2 hb3 hEl hPl hD9
  generalize hgb : D.getD k 0 = b at *
  have HGB := hide hgb
  clear hgb
  generalize hgm : D.length = m at *
  have HGM := hide hgm
  clear hgm
  obtain ⟨q, hqd⟩ : ∃ q, q = (n + 1 + 7) / 8 := ⟨_, rfl⟩
  rw [← hqd] at hc hg
  have hq9 : q ≤ 100000 := by omega
  clear hqd hko
  have HC := hide hc
  clear hc
  subst hD
  obtain rfl : cap = k + 1 := hcn2
  go_enter Try.func54, Try.ntmps54
  go_wp2_with fail
  refine ha.mono ?_
  clear ha
  rintro e w9 ⟨rfl, rfl⟩
  go_wp2
  go_quiet ((go_at_call 90; exact Calls.quiet_of_same (HC.out _)))
  go_wp2_with fail
  have hbv : BV ((w9.setCell ⟨g, 1, none⟩ (.int .i64 ((n : Int) + 1))).drewN nq) B g (.slice (some ⟨r, 0, none⟩) (k + 1) (k + 1)) (n + 1) D := by
    have h1 := H.out.setN (n + 1)
    exact ⟨h1.blk, h1.row, h1.lt⟩
  have hX : Chg (fun i => i = g ∨ (Value.slice (some ⟨r, 0, none⟩) (k + 1) (k + 1)).ownBlock = some i) w9 ((w9.setCell ⟨g, 1, none⟩ (.int .i64 ((n : Int) + 1))).drewN nq) := ((Chg.refl _ w9).setCell (p := ⟨g, 1, none⟩) (fun _ => Or.inl rfl) _).drewN nq
  have e1 := HB1.out
  have HD9 : Hid (k < D.length) := by
    show k < D.length
    rw [HGM.out]; omega
  rw [e1, HB3.out]
  have hb2v := hbv.store (HGM.out.symm) k b'.val b'.isLt hrg
  rw [set_at HD9.out] at hb2v
  have hY := hX.setCell (p := ⟨r, k, none⟩) (fun _ => Or.inr rfl) (.int .u8 ((b'.val : Nat) : Int))
  generalize ((w9.setCell ⟨g, 1, none⟩ (.int .i64 ((n : Int) + 1))).drewN nq).setCell ⟨r, k, none⟩ (.int .u8 ((b'.val : Nat) : Int)) = W2 at *
  have HBV := hide hb2v
  have HY := hide hY
  have HX := hide hX
  have hb7 : b / 128 < 2 := by omega
  refine (shh_nil W2 (b / 128) _ _).mono ?_
  rintro e w3 ⟨⟨y, rfl⟩, rfl⟩
  clear hbv hb2v hY hX
  go_wp2
  go_end0
  refine ⟨rfl, ⟨.slice (some ⟨r, 0, none⟩) (k + 1) (k + 1), _, ⟨?_, ?_, ?_⟩, ?_, ⟨b'.val, HB2.out, rfl⟩⟩, ?_⟩
  · exact HBV.out.blk
  · have e2 : D.drop (k + 1) = [] := List.drop_eq_nil_of_le (by rw [HGM.out]; omega)
    have h1 := HBV.out.row
    rw [e2] at h1 ⊢
    exact h1
  · intro x hx
    have e2 : D.drop (k + 1) = [] := List.drop_eq_nil_of_le (by rw [HGM.out]; omega)
    refine HBV.out.lt x ?_
    rw [e2] at hx ⊢
    exact hx
  · exact fun i hi => Or.inl hi
  · exact HY.out

set_option maxHeartbeats 1000000 in
set_option maxRecDepth 100000 in
theorem bv_insert_r0 (i k o : Nat) (hko : i = 8 * k + o) (ho : o < 8) (hin : i < n) (h : BV w B g v n D) (hn : n ≤ 100000) (_hB : B ≤ w.heap.size) (hD : k + 1 < D.length) (hg : ¬ D.length < (n + 1 + 7) / 8) (hd : D.length ≤ 10000) :
    Calls Try.prog 54 #[.pointer (some ⟨g, 0, none⟩), .int .u8 0, .int .i64 i] w fun e w' => e = .returned (.tuple #[]) ∧ BVTo B g v (n + 1) (fun D' => ∃ b', bitsB b' ++ [((D.getD k 0 / 128 : Nat) : Int)] = (bitsB (D.getD k 0)).take o ++ 0 :: (bitsB (D.getD k 0)).drop o ∧ D' = D.take k ++ b' :: shH (D.getD k 0 / 128) (D.drop (k + 1))) w w' := by
  obtain ⟨c0, c1, f0, f1⟩ := blk_two h.blk
  have hc : ∀ q, Calls Try.prog 90 #[.pointer (some ⟨g, 0, none⟩)] ((w.setCell ⟨g, 1, none⟩ (.int .i64 ((n : Int) + 1))).drewN q) fun e w' => e = .returned (.int .i64 (((n + 1 + 7) / 8 : Nat) : Int)) ∧ w' = (w.setCell ⟨g, 1, none⟩ (.int .i64 ((n : Int) + 1))).drewN q := fun q => bv_blen B g v (n + 1) D _ (by
    have h1 := h.setN (n + 1)
    exact ⟨h1.blk, h1.row, h1.lt⟩) (by omega)
  have ha := bv_assert B g v n D w i h (by omega) (by omega)
  obtain ⟨r, cap, rfl, hcap1, hcap2, hrg, hx, hfx, hlt⟩ := h.at_ k (by omega)
  have hq : (i : Int) / 8 = k := by omega
  have hr : (i : Int) % 8 = o := by omega
  have hk2 : k ≤ 100000 := by omega
  have hEl : (D.drop (k + 1)).length = D.length - (k + 1) := by simp
  have hPl : (D.take k).length = k := by rw [List.length_take]; omega
  have hD9 : k < D.length := by omega
  obtain ⟨b', hb1, hb2⟩ := byte_ins0 ⟨D.getD k 0, hlt⟩ ⟨o, ho⟩
  have hb3 := (byte_h ⟨D.getD k 0, hlt⟩ ⟨0, by omega⟩).2
  have HB1 := hide hb1
  have HB2 := hide hb2
  have HB3 := hide hb3
  have H := hide h
  have HKO := hide hko
  have HEL := hide hEl
  have HPL := hide hPl
  have HD9 := hide hD9
  clear h hb1 hb2 hb3 hEl hPl hD9
  generalize hgb : D.getD k 0 = b at *
  have HGB := hide hgb
  clear hgb
  generalize hgm : D.length = m at *
  have HGM := hide hgm
  clear hgm
  obtain ⟨q, hqd⟩ : ∃ q, q = (n + 1 + 7) / 8 := ⟨_, rfl⟩
  rw [← hqd] at hc hg
  have hq9 : q ≤ 100000 := by omega
  clear hqd hko
  have HC := hide hc
  clear hc
  have hcne : ¬ cap = k + 1 := by omega
  go_enter Try.func54, Try.ntmps54
  go_wp2_with fail
  refine ha.mono ?_
  clear ha
  rintro e w9 ⟨rfl, rfl⟩
  go_wp2
  go_quiet ((go_at_call 90; exact Calls.quiet_of_same (HC.out _)))
  go_wp2_with fail
  have hbv : BV ((w9.setCell ⟨g, 1, none⟩ (.int .i64 ((n : Int) + 1))).drewN nq) B g (.slice (some ⟨r, 0, none⟩) m cap) (n + 1) D := by
    have h1 := H.out.setN (n + 1)
    exact ⟨h1.blk, h1.row, h1.lt⟩
  have hX : Chg (fun i => i = g ∨ (Value.slice (some ⟨r, 0, none⟩) m cap).ownBlock = some i) w9 ((w9.setCell ⟨g, 1, none⟩ (.int .i64 ((n : Int) + 1))).drewN nq) := ((Chg.refl _ w9).setCell (p := ⟨g, 1, none⟩) (fun _ => Or.inl rfl) _).drewN nq
  have e1 := HB1.out
  have HD9 : Hid (k < D.length) := by
    show k < D.length
    rw [HGM.out]; omega
  rw [e1, HB3.out]
  have hb2v := hbv.store (HGM.out.symm) k b'.val b'.isLt hrg
  rw [set_at HD9.out] at hb2v
  have hY := hX.setCell (p := ⟨r, k, none⟩) (fun _ => Or.inr rfl) (.int .u8 ((b'.val : Nat) : Int))
  generalize ((w9.setCell ⟨g, 1, none⟩ (.int .i64 ((n : Int) + 1))).drewN nq).setCell ⟨r, k, none⟩ (.int .u8 ((b'.val : Nat) : Int)) = W2 at *
  have HBV := hide hb2v
  have HY := hide hY
  have HX := hide hX
  have hb7 : b / 128 < 2 := by omega
  have hrow : W2.ownsRow B 5 1 (.slice (some ⟨r, 0, none⟩) m cap) m (bytes ((D.take k ++ [b'.val]) ++ D.drop (k + 1))) := by
    have h1 := HBV.out.row
    rw [show (D.take k ++ b'.val :: D.drop (k + 1)).length = m by (rw [← set_at HD9.out, List.length_set]; exact HGM.out)] at h1
    rw [List.append_assoc]; exact h1
  have hsh := shh_cons B W2 (b / 128) hb7 r cap m (cap - (k + 1)) (D.take k ++ [b'.val]) (D.drop (k + 1)) (by omega) (fun x hx => H.out.lt x (List.mem_of_mem_drop hx)) hrow
  rw [HEL.out, List.length_append, HPL.out, List.length_singleton] at hsh
  refine hsh.mono ?_
  clear hsh hrow
  rintro e w3 ⟨⟨y, rfl⟩, hro3, hcg3⟩
  have HR3 := hide hro3
  have HC3 := hide hcg3
  clear hro3 hcg3
  clear hbv hb2v hY hX
  go_wp2
  go_end0
  refine ⟨rfl, ⟨.slice (some ⟨r, 0, none⟩) m cap, _, ⟨?_, ?_, ?_⟩, ?_, ⟨b'.val, HB2.out, rfl⟩⟩, ?_⟩
  · exact HBV.out.blk.chg HC3.out (fun e => hrg e.symm)
  · have h1 := HR3.out
    have e3 : (D.take k ++ b'.val :: shH (b / 128) (D.drop (k + 1))).length = m := by
      rw [List.length_append, List.length_cons, shH_len, HPL.out, HEL.out]
      omega
    rw [e3]
    rw [List.append_assoc] at h1
    exact h1
  · intro x hx
    rcases List.mem_append.1 hx with hx | hx
    · exact H.out.lt x (List.mem_of_mem_take hx)
    · rcases List.mem_cons.1 hx with rfl | hx
      · exact b'.isLt
      · exact shH_lt _ _ (fun x hx => H.out.lt x (List.mem_of_mem_drop hx)) hb7 x hx
  · exact fun i hi => Or.inl hi
  · exact HY.out.trans HC3.out (fun i hi e => Or.inr (by rw [e]; rfl))

set_option maxHeartbeats 1000000 in
set_option maxRecDepth 100000 in
theorem bv_insert_e0n (i k o : Nat) (hko : i = 8 * k + o) (ho : o < 8) (hin : i < n) (h : BV w B g v n D) (hn : n ≤ 100000) (_hB : B ≤ w.heap.size) (hD : k + 1 = D.length) (hg : ¬ D.length < (n + 1 + 7) / 8) (hd : D.length ≤ 10000) (hcn : ∀ A c, v = .slice A D.length c → c ≠ k + 1) :
    Calls Try.prog 54 #[.pointer (some ⟨g, 0, none⟩), .int .u8 0, .int .i64 i] w fun e w' => e = .returned (.tuple #[]) ∧ BVTo B g v (n + 1) (fun D' => ∃ b', bitsB b' ++ [((D.getD k 0 / 128 : Nat) : Int)] = (bitsB (D.getD k 0)).take o ++ 0 :: (bitsB (D.getD k 0)).drop o ∧ D' = D.take k ++ b' :: shH (D.getD k 0 / 128) (D.drop (k + 1))) w w' := by
  obtain ⟨c0, c1, f0, f1⟩ := blk_two h.blk
  have hc : ∀ q, Calls Try.prog 90 #[.pointer (some ⟨g, 0, none⟩)] ((w.setCell ⟨g, 1, none⟩ (.int .i64 ((n : Int) + 1))).drewN q) fun e w' => e = .returned (.int .i64 (((n + 1 + 7) / 8 : Nat) : Int)) ∧ w' = (w.setCell ⟨g, 1, none⟩ (.int .i64 ((n : Int) + 1))).drewN q := fun q => bv_blen B g v (n + 1) D _ (by
    have h1 := h.setN (n + 1)
    exact ⟨h1.blk, h1.row, h1.lt⟩) (by omega)
  have ha := bv_assert B g v n D w i h (by omega) (by omega)
  obtain ⟨r, cap, rfl, hcap1, hcap2, hrg, hx, hfx, hlt⟩ := h.at_ k (by omega)
  have hcn2 := hcn _ _ rfl
  clear hcn
  have hq : (i : Int) / 8 = k := by omega
  have hr : (i : Int) % 8 = o := by omega
  have hk2 : k ≤ 100000 := by omega
  have hEl : (D.drop (k + 1)).length = D.length - (k + 1) := by simp
  have hPl : (D.take k).length = k := by rw [List.length_take]; omega
  have hD9 : k < D.length := by omega
  obtain ⟨b', hb1, hb2⟩ := byte_ins0 ⟨D.getD k 0, hlt⟩ ⟨o, ho⟩
  have hb3 := (byte_h ⟨D.getD k 0, hlt⟩ ⟨0, by omega⟩).2
  have HB1 := hide hb1
  have HB2 := hide hb2
  have HB3 := hide hb3
  have H := hide h
  have HKO := hide hko
  have HEL := hide hEl
  have HPL := hide hPl
  have HD9 := hide hD9
  clear h hb1 hb2 hb3 hEl hPl hD9
  generalize hgb : D.getD k 0 = b at *
  have HGB := hide hgb
  clear hgb
  generalize hgm : D.length = m at *
  have HGM := hide hgm
  clear hgm
  obtain ⟨q, hqd⟩ : ∃ q, q = (n + 1 + 7) / 8 := ⟨_, rfl⟩
  rw [← hqd] at hc hg
  have hq9 : q ≤ 100000 := by omega
  clear hqd hko
  have HC := hide hc
  clear hc
  subst hD
  have hcne : ¬ cap = k + 1 := hcn2
  go_enter Try.func54, Try.ntmps54
  go_wp2_with fail
  refine ha.mono ?_
  clear ha
  rintro e w9 ⟨rfl, rfl⟩
  go_wp2
  go_quiet ((go_at_call 90; exact Calls.quiet_of_same (HC.out _)))
  go_wp2_with fail
  have hbv : BV ((w9.setCell ⟨g, 1, none⟩ (.int .i64 ((n : Int) + 1))).drewN nq) B g (.slice (some ⟨r, 0, none⟩) (k + 1) cap) (n + 1) D := by
    have h1 := H.out.setN (n + 1)
    exact ⟨h1.blk, h1.row, h1.lt⟩
  have hX : Chg (fun i => i = g ∨ (Value.slice (some ⟨r, 0, none⟩) (k + 1) cap).ownBlock = some i) w9 ((w9.setCell ⟨g, 1, none⟩ (.int .i64 ((n : Int) + 1))).drewN nq) := ((Chg.refl _ w9).setCell (p := ⟨g, 1, none⟩) (fun _ => Or.inl rfl) _).drewN nq
  have e1 := HB1.out
  have HD9 : Hid (k < D.length) := by
    show k < D.length
    rw [HGM.out]; omega
  rw [e1, HB3.out]
  have hb2v := hbv.store (HGM.out.symm) k b'.val b'.isLt hrg
  rw [set_at HD9.out] at hb2v
  have hY := hX.setCell (p := ⟨r, k, none⟩) (fun _ => Or.inr rfl) (.int .u8 ((b'.val : Nat) : Int))
  generalize ((w9.setCell ⟨g, 1, none⟩ (.int .i64 ((n : Int) + 1))).drewN nq).setCell ⟨r, k, none⟩ (.int .u8 ((b'.val : Nat) : Int)) = W2 at *
  have HBV := hide hb2v
  have HY := hide hY
  have HX := hide hX
  have hb7 : b / 128 < 2 := by omega
  refine (shh_nil W2 (b / 128) _ _).mono ?_
  rintro e w3 ⟨⟨y, rfl⟩, rfl⟩
  clear hbv hb2v hY hX
  go_wp2
  go_end0
  refine ⟨rfl, ⟨.slice (some ⟨r, 0, none⟩) (k + 1) cap, _, ⟨?_, ?_, ?_⟩, ?_, ⟨b'.val, HB2.out, rfl⟩⟩, ?_⟩
  · exact HBV.out.blk
  · have e2 : D.drop (k + 1) = [] := List.drop_eq_nil_of_le (by rw [HGM.out]; omega)
    have h1 := HBV.out.row
    rw [e2] at h1 ⊢
    exact h1
  · intro x hx
    have e2 : D.drop (k + 1) = [] := List.drop_eq_nil_of_le (by rw [HGM.out]; omega)
    refine HBV.out.lt x ?_
    rw [e2] at hx ⊢
    exact hx
  · exact fun i hi => Or.inl hi
  · exact HY.out

set_option maxHeartbeats 1000000 in
set_option maxRecDepth 100000 in
theorem bv_insert_e0y (i k o : Nat) (hko : i = 8 * k + o) (ho : o < 8) (hin : i < n) (h : BV w B g v n D) (hn : n ≤ 100000) (_hB : B ≤ w.heap.size) (hD : k + 1 = D.length) (hg : ¬ D.length < (n + 1 + 7) / 8) (hd : D.length ≤ 10000) (hcn : ∀ A c, v = .slice A D.length c → c = k + 1) :
    Calls Try.prog 54 #[.pointer (some ⟨g, 0, none⟩), .int .u8 0, .int .i64 i] w fun e w' => e = .returned (.tuple #[]) ∧ BVTo B g v (n + 1) (fun D' => ∃ b', bitsB b' ++ [((D.getD k 0 / 128 : Nat) : Int)] = (bitsB (D.getD k 0)).take o ++ 0 :: (bitsB (D.getD k 0)).drop o ∧ D' = D.take k ++ b' :: shH (D.getD k 0 / 128) (D.drop (k + 1))) w w' := by
  obtain ⟨c0, c1, f0, f1⟩ := blk_two h.blk
  have hc : ∀ q, Calls Try.prog 90 #[.pointer (some ⟨g, 0, none⟩)] ((w.setCell ⟨g, 1, none⟩ (.int .i64 ((n : Int) + 1))).drewN q) fun e w' => e = .returned (.int .i64 (((n + 1 + 7) / 8 : Nat) : Int)) ∧ w' = (w.setCell ⟨g, 1, none⟩ (.int .i64 ((n : Int) + 1))).drewN q := fun q => bv_blen B g v (n + 1) D _ (by
    have h1 := h.setN (n + 1)
    exact ⟨h1.blk, h1.row, h1.lt⟩) (by omega)
  have ha := bv_assert B g v n D w i h (by omega) (by omega)
  obtain ⟨r, cap, rfl, hcap1, hcap2, hrg, hx, hfx, hlt⟩ := h.at_ k (by omega)
  have hcn2 := hcn _ _ rfl
  clear hcn
  have hq : (i : Int) / 8 = k := by omega
  have hr : (i : Int) % 8 = o := by omega
  have hk2 : k ≤ 100000 := by omega
  have hEl : (D.drop (k + 1)).length = D.length - (k + 1) := by simp
  have hPl : (D.take k).length = k := by rw [List.length_take]; omega
  have hD9 : k < D.length := by omega
  obtain ⟨b', hb1, hb2⟩ := byte_ins0 ⟨D.getD k 0, hlt⟩ ⟨o, ho⟩
  have hb3 := (byte_h ⟨D.getD k 0, hlt⟩ ⟨0, by omega⟩).2
  have HB1 := hide hb1
  have HB2 := hide hb2
  have HB3 := hide hb3
  have H := hide h
  have HKO := hide hko
  have HEL := hide hEl
  have HPL := hide hPl
  have HD9 := hide hD9
  clear h hb1 hb2 hb3 hEl hPl hD9
  generalize hgb : D.getD k 0 = b at *
  have HGB := hide hgb
  clear hgb
  generalize hgm : D.length = m at *
  have HGM := hide hgm
  clear hgm
  obtain ⟨q, hqd⟩ : ∃ q, q = (n + 1 + 7) / 8 := ⟨_, rfl⟩
  rw [← hqd] at hc hg
  have hq9 : q ≤ 100000 := by omega
  clear hqd hko
  have HC := hide hc
  clear hc
  subst hD
  obtain rfl : cap = k + 1 := hcn2
  go_enter Try.func54, Try.ntmps54
  go_wp2_with fail
  refine ha.mono ?_
  clear ha
  rintro e w9 ⟨rfl, rfl⟩
  go_wp2
  go_quiet ((go_at_call 90; exact Calls.quiet_of_same (HC.out _)))
  go_wp2_with fail
  have hbv : BV ((w9.setCell ⟨g, 1, none⟩ (.int .i64 ((n : Int) + 1))).drewN nq) B g (.slice (some ⟨r, 0, none⟩) (k + 1) (k + 1)) (n + 1) D := by
    have h1 := H.out.setN (n + 1)
    exact ⟨h1.blk, h1.row, h1.lt⟩
  have hX : Chg (fun i => i = g ∨ (Value.slice (some ⟨r, 0, none⟩) (k + 1) (k + 1)).ownBlock = some i) w9 ((w9.setCell ⟨g, 1, none⟩ (.int .i64 ((n : Int) + 1))).drewN nq) := ((Chg.refl _ w9).setCell (p := ⟨g, 1, none⟩) (fun _ => Or.inl rfl) _).drewN nq
  have e1 := HB1.out
  have HD9 : Hid (k < D.length) := by
    show k < D.length
    rw [HGM.out]; omega
  rw [e1, HB3.out]
  have hb2v := hbv.store (HGM.out.symm) k b'.val b'.isLt hrg
  rw [set_at HD9.out] at hb2v
  have hY := hX.setCell (p := ⟨r, k, none⟩) (fun _ => Or.inr rfl) (.int .u8 ((b'.val : Nat) : Int))
  generalize ((w9.setCell ⟨g, 1, none⟩ (.int .i64 ((n : Int) + 1))).drewN nq).setCell ⟨r, k, none⟩ (.int .u8 ((b'.val : Nat) : Int)) = W2 at *
  have HBV := hide hb2v
  have HY := hide hY
  have HX := hide hX
  have hb7 : b / 128 < 2 := by omega
  refine (shh_nil W2 (b / 128) _ _).mono ?_
  rintro e w3 ⟨⟨y, rfl⟩, rfl⟩
  clear hbv hb2v hY hX
  go_wp2
  go_end0
  refine ⟨rfl, ⟨.slice (some ⟨r, 0, none⟩) (k + 1) (k + 1), _, ⟨?_, ?_, ?_⟩, ?_, ⟨b'.val, HB2.out, rfl⟩⟩, ?_⟩
  · exact HBV.out.blk
  · have e2 : D.drop (k + 1) = [] := List.drop_eq_nil_of_le (by rw [HGM.out]; omega)
    have h1 := HBV.out.row
    rw [e2] at h1 ⊢
    exact h1
  · intro x hx
    have e2 : D.drop (k + 1) = [] := List.drop_eq_nil_of_le (by rw [HGM.out]; omega)
    refine HBV.out.lt x ?_
    rw [e2] at hx ⊢
    exact hx
  · exact fun i hi => Or.inl hi
  · exact HY.out

set_option maxHeartbeats 1000000 in
set_option maxRecDepth 100000 in
theorem bv_insert_g1 (i k o : Nat) (hko : i = 8 * k + o) (ho : o < 8) (hin : i < n) (h : BV w B g v n D) (hn : n ≤ 100000) (hB : B ≤ w.heap.size) (hD : k + 1 < (D ++ [0]).length) (hg : D.length < (n + 1 + 7) / 8) (hd : D.length ≤ 10000) :
    Calls Try.prog 54 #[.pointer (some ⟨g, 0, none⟩), .int .u8 1, .int .i64 i] w fun e w' => e = .returned (.tuple #[]) ∧ BVTo B g v (n + 1) (fun D' => ∃ b', bitsB b' ++ [(((D ++ [0]).getD k 0 / 128 : Nat) : Int)] = (bitsB ((D ++ [0]).getD k 0)).take o ++ 1 :: (bitsB ((D ++ [0]).getD k 0)).drop o ∧ D' = (D ++ [0]).take k ++ b' :: shH ((D ++ [0]).getD k 0 / 128) ((D ++ [0]).drop (k + 1))) w w' := by
  obtain ⟨c0, c1, f0, f1⟩ := blk_two h.blk
  have hc : ∀ q, Calls Try.prog 90 #[.pointer (some ⟨g, 0, none⟩)] ((w.setCell ⟨g, 1, none⟩ (.int .i64 ((n : Int) + 1))).drewN q) fun e w' => e = .returned (.int .i64 (((n + 1 + 7) / 8 : Nat) : Int)) ∧ w' = (w.setCell ⟨g, 1, none⟩ (.int .i64 ((n : Int) + 1))).drewN q := fun q => bv_blen B g v (n + 1) D _ (by
    have h1 := h.setN (n + 1)
    exact ⟨h1.blk, h1.row, h1.lt⟩) (by omega)
  have ha := bv_assert B g v n D w i h (by omega) (by omega)
  obtain ⟨i0, hi5, hz0, hz1, hz2⟩ := info_parts info5
  have hlt : (D ++ [0]).getD k 0 < 256 := by
    rw [List.getD_eq_getElem?_getD, List.getElem?_eq_getElem (by omega), Option.getD_some]
    rcases List.mem_append.1 (List.getElem_mem (by omega : k < (D ++ [0]).length)) with h1 | h1
    · exact h.lt _ h1
    · rw [List.mem_singleton.1 h1]; omega
  have hvg : v.ownBlock ≠ some g := fun e => by
    obtain ⟨cs, hcs⟩ := own_blk h.row e
    exact hcs.ne_ h.blk (by decide) rfl
  obtain ⟨A, cap, rfl, _⟩ := own_reads h.row
  have HVG := hide hvg
  have hown := (h.setN (n + 1)).row
  have c00 : (w.setCell ⟨g, 1, none⟩ (.int .i64 ((n : Int) + 1))).cell? ⟨g, 0, none⟩ = some (.slice A D.length cap) := (h.setN (n + 1)).blk.cell 0
  have f00 : (w.setCell ⟨g, 1, none⟩ (.int .i64 ((n : Int) + 1))).frozen? ⟨g, 0, none⟩ = false := (h.setN (n + 1)).blk.frozen 0
  have HC00 := hide c00
  have HF00 := hide f00
  have hgl := h.blk.lt
  clear hvg c00 f00
  rw [show ((n + 1 : Nat) : Int) = (n : Int) + 1 from rfl] at hown
  have hE : Hid (∀ j, j < (D ++ [0]).length → (bytes (D ++ [0]))[j]? = some (.int .u8 (((D ++ [0]).getD j 0 : Nat) : Int))) := fun j hj => by
    rw [List.getElem?_map, List.getElem?_eq_getElem hj, List.getD_eq_getElem?_getD, List.getElem?_eq_getElem hj]; rfl
  have hq : (i : Int) / 8 = k := by omega
  have hr : (i : Int) % 8 = o := by omega
  have hk2 : k ≤ 100000 := by omega
  have hEl : ((D ++ [0]).drop (k + 1)).length = D.length + 1 - (k + 1) := by simp
  have hPl : ((D ++ [0]).take k).length = k := by rw [List.length_take]; omega
  have hD9 : k < (D ++ [0]).length := by omega
  obtain ⟨b', hb1, hb2⟩ := byte_ins1 ⟨(D ++ [0]).getD k 0, hlt⟩ ⟨o, ho⟩
  have hb3 := (byte_h ⟨(D ++ [0]).getD k 0, hlt⟩ ⟨0, by omega⟩).2
  have HB1 := hide hb1
  have HB2 := hide hb2
  have HB3 := hide hb3
  have H := hide h
  have HKO := hide hko
  have HEL := hide hEl
  have HPL := hide hPl
  have HD9 := hide hD9
  clear h hb1 hb2 hb3 hEl hPl hD9
  generalize hgb : (D ++ [0]).getD k 0 = b at *
  have HGB := hide hgb
  clear hgb
  generalize hgm : D.length = m at *
  have HGM := hide hgm
  clear hgm
  obtain ⟨q, hqd⟩ : ∃ q, q = (n + 1 + 7) / 8 := ⟨_, rfl⟩
  rw [← hqd] at hc hg
  have hq9 : q ≤ 100000 := by omega
  clear hqd hko
  have HC := hide hc
  clear hc
  have hkm : k + 1 < m + 1 := by have h1 := HGM.out; simp at hD; omega
  go_enter Try.func54, Try.ntmps54
  go_wp2_with fail
  refine ha.mono ?_
  clear ha
  rintro e w9 ⟨rfl, rfl⟩
  go_wp2
  go_quiet ((go_at_call 90; exact Calls.quiet_of_same (HC.out _)))
  go_wp2_with
    (at_builtin
     go_must (refine wpList_append1 rfl _ _ 43 rfl B 5 i0 (.int .u8 0) 1 Try.underlying43 hi5 hz0 hz1 hz2 rfl (.slice A m cap) m (bytes D) rfl (World.ownsRow.alloc (own_chg hown ((Chg.refl (fun _ => False) _).drewN _) (fun _ _ h => h)) _) _ 1 (.int .u8 0) rfl ((Blk.new_ (n := w9.heap.size) _ 5 #[.int .u8 0] (by simp [World.setCell])).cell 0) rfl (by unfold maxLen; omega) (by omega) (by simp [World.setCell]; omega) ?_)
     intro g1 cp w1 hO _ hG hat hg1
     have hcp := own_cap hO
     unfold maxLen at hcp
     obtain ⟨hcp1, hcp2⟩ := hcp
     have hg1g : g1 ≠ g := (by
       rcases hat with h | h
       · exact fun e => HVG.out (by rw [h, e])
       · intro e
         simp [World.setCell] at h
         omega)
     have hx0 : w1.cell? ⟨g, 0, none⟩ = some (.slice A m cap) := ((hG.cell_far _ (by simp [World.setCell]; omega) (fun e => HVG.out e.symm)).trans (by rw [World.cell?_alloc_lt _ _ _ (by simp [World.setCell]; exact hgl)]; simpa using HC00.out))
     have hf0 : w1.frozen? ⟨g, 0, none⟩ = false := ((hG.frozen_far _ (by simp [World.setCell]; omega) (fun e => HVG.out e.symm)).trans (by rw [World.frozen?_alloc_old _ _ _ (by simp [World.setCell]; omega)]; simpa using HF00.out))
     have hx1 : w1.cell? ⟨g1, k, none⟩ = some (.int .u8 (b : Int)) := (by
       rw [hO.cellAt k (by have h1 := HD9.out; have h2 := HGM.out; simp at h1; omega)]
       have h3 := hE.out k HD9.out
       rw [HGB.out] at h3
       rw [← h3]; simp)
     have hf1' := hO.frozenAt k
     have hkm2 : k < m + 1 := (by omega)
     have hcne : ¬ cp = k + 1 := (by omega)
     have HO := hide hO
     have HG := hide hG
     have HAT := hide hat
     clear hO hG hat)
  go_wp2_with fail
  have hX0 : Chg (fun i => i = g ∨ (Value.slice A m cap).ownBlock = some i) w9 ((w9.setCell ⟨g, 1, none⟩ (.int .i64 ((n : Int) + 1))).drewN nq) := ((Chg.refl _ w9).setCell (p := ⟨g, 1, none⟩) (fun _ => Or.inl rfl) _).drewN nq
  have hc1 : Chg (fun i => i = g ∨ (Value.slice A m cap).ownBlock = some i) w9 w1 := (hX0.alloc _).trans (Chg.ofGrown (S := fun k => (Value.slice A m cap).ownBlock = some k) HG.out (fun g hg _ => hg)) (fun i _ h => Or.inr h)
  have hb1 : Blk w1 g 121 #[.slice A m cap, .int .i64 ((n : Int) + 1)] := by
    have h1 := (H.out.setN (n + 1)).blk
    exact (HG.out.block g (by simp [World.setCell]; omega) (fun e => HVG.out e.symm)).trans ((Blk.drewN h1 nq).alloc _)
  have hbv : BV (w1.setCell ⟨g, 0, none⟩ (.slice (some ⟨g1, 0, none⟩) (m + 1) cp)) B g (.slice (some ⟨g1, 0, none⟩) (m + 1) cp) (n + 1) (D ++ [0]) := by
    refine ⟨hb1.set_ 0 _, ?_, fun x hx => ?_⟩
    · have h1 := ownsRow_setCell_other HO.out (a := ⟨g, 0, none⟩) (by simp [Value.ownBlock]; exact hg1g) (.slice (some ⟨g1, 0, none⟩) (m + 1) cp)
      have e1 : (D ++ [0]).length = m + 1 := by rw [List.length_append, HGM.out]; rfl
      have e2 : bytes (D ++ [0]) = bytes D ++ [.int .u8 0] := List.map_append
      rw [e1, e2]; exact h1
    · rcases List.mem_append.1 hx with hx | hx
      · exact H.out.lt x hx
      · rw [List.mem_singleton.1 hx]; omega
  have HLT := hide hbv.lt
  have hX := hc1.setCell (p := ⟨g, 0, none⟩) (fun _ => Or.inl rfl) (.slice (some ⟨g1, 0, none⟩) (m + 1) cp)
  have e1 := HB1.out
  have HD9 : Hid (k < (D ++ [0] : List Nat).length) := by
    show k < (D ++ [0] : List Nat).length
    rw [List.length_append, HGM.out]; simp; omega
  rw [e1, HB3.out]
  have hb2v := hbv.store (by rw [List.length_append, HGM.out]; rfl) k b'.val b'.isLt hg1g
  rw [set_at HD9.out] at hb2v
  have hY := hX.setCell (p := ⟨g1, k, none⟩) (fun hlt => by
    rcases HAT.out with h | h
    · exact Or.inr h
    · simp [World.setCell] at h
      simp at hlt
      omega) (.int .u8 ((b'.val : Nat) : Int))
  generalize (w1.setCell ⟨g, 0, none⟩ (.slice (some ⟨g1, 0, none⟩) (m + 1) cp)).setCell ⟨g1, k, none⟩ (.int .u8 ((b'.val : Nat) : Int)) = W2 at *
  have HBV := hide hb2v
  have HY := hide hY
  have HX := hide hX
  have hb7 : b / 128 < 2 := by omega
  have hrow : W2.ownsRow B 5 1 (.slice (some ⟨g1, 0, none⟩) (m + 1) cp) (m + 1) (bytes (((D ++ [0] : List Nat).take k ++ [b'.val]) ++ (D ++ [0] : List Nat).drop (k + 1))) := by
    have h1 := HBV.out.row
    rw [show ((D ++ [0] : List Nat).take k ++ b'.val :: (D ++ [0] : List Nat).drop (k + 1)).length = (m + 1) by (rw [← set_at HD9.out, List.length_set]; rw [List.length_append, HGM.out]; rfl)] at h1
    rw [List.append_assoc]; exact h1
  have hsh := shh_cons B W2 (b / 128) hb7 g1 cp (m + 1) (cp - (k + 1)) ((D ++ [0] : List Nat).take k ++ [b'.val]) ((D ++ [0] : List Nat).drop (k + 1)) (by omega) (fun x hx => HLT.out x (List.mem_of_mem_drop hx)) hrow
  rw [HEL.out, List.length_append, HPL.out, List.length_singleton] at hsh
  rw [show m + 1 - (k + 1) = m - k by omega] at hsh
  refine hsh.mono ?_
  clear hsh hrow
  rintro e w3 ⟨⟨y, rfl⟩, hro3, hcg3⟩
  have HR3 := hide hro3
  have HC3 := hide hcg3
  clear hro3 hcg3
  clear hbv hb2v hY hX
  go_wp2
  go_end0
  refine ⟨rfl, ⟨.slice (some ⟨g1, 0, none⟩) (m + 1) cp, _, ⟨?_, ?_, ?_⟩, ?_, ⟨b'.val, HB2.out, rfl⟩⟩, ?_⟩
  · exact HBV.out.blk.chg HC3.out (fun e => hg1g e.symm)
  · have h1 := HR3.out
    have e3 : ((D ++ [0] : List Nat).take k ++ b'.val :: shH (b / 128) ((D ++ [0] : List Nat).drop (k + 1))).length = (m + 1) := by
      rw [List.length_append, List.length_cons, shH_len, HPL.out, HEL.out]
      omega
    rw [e3]
    rw [List.append_assoc] at h1
    exact h1
  · intro x hx
    rcases List.mem_append.1 hx with hx | hx
    · exact HLT.out x (List.mem_of_mem_take hx)
    · rcases List.mem_cons.1 hx with rfl | hx
      · exact b'.isLt
      · exact shH_lt _ _ (fun x hx => HLT.out x (List.mem_of_mem_drop hx)) hb7 x hx
  · intro i hi
    rcases HAT.out with h | h
    · exact Or.inl (by rw [h]; exact hi)
    · simp [World.setCell] at h
      simp [Value.ownBlock] at hi
      exact Or.inr (by omega)
  · exact HY.out.trans HC3.out (fun i hi e => by
      rcases HAT.out with h | h
      · exact Or.inr (by rw [h, e])
      · simp [World.setCell] at h
        omega)

set_option maxHeartbeats 1000000 in
set_option maxRecDepth 100000 in
theorem bv_insert_g0 (i k o : Nat) (hko : i = 8 * k + o) (ho : o < 8) (hin : i < n) (h : BV w B g v n D) (hn : n ≤ 100000) (hB : B ≤ w.heap.size) (hD : k + 1 < (D ++ [0]).length) (hg : D.length < (n + 1 + 7) / 8) (hd : D.length ≤ 10000) :
    Calls Try.prog 54 #[.pointer (some ⟨g, 0, none⟩), .int .u8 0, .int .i64 i] w fun e w' => e = .returned (.tuple #[]) ∧ BVTo B g v (n + 1) (fun D' => ∃ b', bitsB b' ++ [(((D ++ [0]).getD k 0 / 128 : Nat) : Int)] = (bitsB ((D ++ [0]).getD k 0)).take o ++ 0 :: (bitsB ((D ++ [0]).getD k 0)).drop o ∧ D' = (D ++ [0]).take k ++ b' :: shH ((D ++ [0]).getD k 0 / 128) ((D ++ [0]).drop (k + 1))) w w' := by
  obtain ⟨c0, c1, f0, f1⟩ := blk_two h.blk
  have hc : ∀ q, Calls Try.prog 90 #[.pointer (some ⟨g, 0, none⟩)] ((w.setCell ⟨g, 1, none⟩ (.int .i64 ((n : Int) + 1))).drewN q) fun e w' => e = .returned (.int .i64 (((n + 1 + 7) / 8 : Nat) : Int)) ∧ w' = (w.setCell ⟨g, 1, none⟩ (.int .i64 ((n : Int) + 1))).drewN q := fun q => bv_blen B g v (n + 1) D _ (by
    have h1 := h.setN (n + 1)
    exact ⟨h1.blk, h1.row, h1.lt⟩) (by omega)
  have ha := bv_assert B g v n D w i h (by omega) (by omega)
  obtain ⟨i0, hi5, hz0, hz1, hz2⟩ := info_parts info5
  have hlt : (D ++ [0]).getD k 0 < 256 := by
    rw [List.getD_eq_getElem?_getD, List.getElem?_eq_getElem (by omega), Option.getD_some]
    rcases List.mem_append.1 (List.getElem_mem (by omega : k < (D ++ [0]).length)) with h1 | h1
    · exact h.lt _ h1
    · rw [List.mem_singleton.1 h1]; omega
  have hvg : v.ownBlock ≠ some g := fun e => by
    obtain ⟨cs, hcs⟩ := own_blk h.row e
    exact hcs.ne_ h.blk (by decide) rfl
  obtain ⟨A, cap, rfl, _⟩ := own_reads h.row
  have HVG := hide hvg
  have hown := (h.setN (n + 1)).row
  have c00 : (w.setCell ⟨g, 1, none⟩ (.int .i64 ((n : Int) + 1))).cell? ⟨g, 0, none⟩ = some (.slice A D.length cap) := (h.setN (n + 1)).blk.cell 0
  have f00 : (w.setCell ⟨g, 1, none⟩ (.int .i64 ((n : Int) + 1))).frozen? ⟨g, 0, none⟩ = false := (h.setN (n + 1)).blk.frozen 0
  have HC00 := hide c00
  have HF00 := hide f00
  have hgl := h.blk.lt
  clear hvg c00 f00
  rw [show ((n + 1 : Nat) : Int) = (n : Int) + 1 from rfl] at hown
  have hE : Hid (∀ j, j < (D ++ [0]).length → (bytes (D ++ [0]))[j]? = some (.int .u8 (((D ++ [0]).getD j 0 : Nat) : Int))) := fun j hj => by
    rw [List.getElem?_map, List.getElem?_eq_getElem hj, List.getD_eq_getElem?_getD, List.getElem?_eq_getElem hj]; rfl
  have hq : (i : Int) / 8 = k := by omega
  have hr : (i : Int) % 8 = o := by omega
  have hk2 : k ≤ 100000 := by omega
  have hEl : ((D ++ [0]).drop (k + 1)).length = D.length + 1 - (k + 1) := by simp
  have hPl : ((D ++ [0]).take k).length = k := by rw [List.length_take]; omega
  have hD9 : k < (D ++ [0]).length := by omega
  obtain ⟨b', hb1, hb2⟩ := byte_ins0 ⟨(D ++ [0]).getD k 0, hlt⟩ ⟨o, ho⟩
  have hb3 := (byte_h ⟨(D ++ [0]).getD k 0, hlt⟩ ⟨0, by omega⟩).2
  have HB1 := hide hb1
  have HB2 := hide hb2
  have HB3 := hide hb3
  have H := hide h
  have HKO := hide hko
  have HEL := hide hEl
  have HPL := hide hPl
  have HD9 := hide hD9
  clear h hb1 hb2 hb3 hEl hPl hD9
  generalize hgb : (D ++ [0]).getD k 0 = b at *
  have HGB := hide hgb
  clear hgb
  generalize hgm : D.length = m at *
  have HGM := hide hgm
  clear hgm
  obtain ⟨q, hqd⟩ : ∃ q, q = (n + 1 + 7) / 8 := ⟨_, rfl⟩
  rw [← hqd] at hc hg
  have hq9 : q ≤ 100000 := by omega
  clear hqd hko
  have HC := hide hc
  clear hc
  have hkm : k + 1 < m + 1 := by have h1 := HGM.out; simp at hD; omega
  go_enter Try.func54, Try.ntmps54
  go_wp2_with fail
  refine ha.mono ?_
  clear ha
  rintro e w9 ⟨rfl, rfl⟩
  go_wp2
  go_quiet ((go_at_call 90; exact Calls.quiet_of_same (HC.out _)))
  go_wp2_with
    (at_builtin
     go_must (refine wpList_append1 rfl _ _ 43 rfl B 5 i0 (.int .u8 0) 1 Try.underlying43 hi5 hz0 hz1 hz2 rfl (.slice A m cap) m (bytes D) rfl (World.ownsRow.alloc (own_chg hown ((Chg.refl (fun _ => False) _).drewN _) (fun _ _ h => h)) _) _ 1 (.int .u8 0) rfl ((Blk.new_ (n := w9.heap.size) _ 5 #[.int .u8 0] (by simp [World.setCell])).cell 0) rfl (by unfold maxLen; omega) (by omega) (by simp [World.setCell]; omega) ?_)
     intro g1 cp w1 hO _ hG hat hg1
     have hcp := own_cap hO
     unfold maxLen at hcp
     obtain ⟨hcp1, hcp2⟩ := hcp
     have hg1g : g1 ≠ g := (by
       rcases hat with h | h
       · exact fun e => HVG.out (by rw [h, e])
       · intro e
         simp [World.setCell] at h
         omega)
     have hx0 : w1.cell? ⟨g, 0, none⟩ = some (.slice A m cap) := ((hG.cell_far _ (by simp [World.setCell]; omega) (fun e => HVG.out e.symm)).trans (by rw [World.cell?_alloc_lt _ _ _ (by simp [World.setCell]; exact hgl)]; simpa using HC00.out))
     have hf0 : w1.frozen? ⟨g, 0, none⟩ = false := ((hG.frozen_far _ (by simp [World.setCell]; omega) (fun e => HVG.out e.symm)).trans (by rw [World.frozen?_alloc_old _ _ _ (by simp [World.setCell]; omega)]; simpa using HF00.out))
     have hx1 : w1.cell? ⟨g1, k, none⟩ = some (.int .u8 (b : Int)) := (by
       rw [hO.cellAt k (by have h1 := HD9.out; have h2 := HGM.out; simp at h1; omega)]
       have h3 := hE.out k HD9.out
       rw [HGB.out] at h3
       rw [← h3]; simp)
     have hf1' := hO.frozenAt k
     have hkm2 : k < m + 1 := (by omega)
     have hcne : ¬ cp = k + 1 := (by omega)
     have HO := hide hO
     have HG := hide hG
     have HAT := hide hat
     clear hO hG hat)
  go_wp2_with fail
  have hX0 : Chg (fun i => i = g ∨ (Value.slice A m cap).ownBlock = some i) w9 ((w9.setCell ⟨g, 1, none⟩ (.int .i64 ((n : Int) + 1))).drewN nq) := ((Chg.refl _ w9).setCell (p := ⟨g, 1, none⟩) (fun _ => Or.inl rfl) _).drewN nq
  have hc1 : Chg (fun i => i = g ∨ (Value.slice A m cap).ownBlock = some i) w9 w1 := (hX0.alloc _).trans (Chg.ofGrown (S := fun k => (Value.slice A m cap).ownBlock = some k) HG.out (fun g hg _ => hg)) (fun i _ h => Or.inr h)
  have hb1 : Blk w1 g 121 #[.slice A m cap, .int .i64 ((n : Int) + 1)] := by
    have h1 := (H.out.setN (n + 1)).blk
    exact (HG.out.block g (by simp [World.setCell]; omega) (fun e => HVG.out e.symm)).trans ((Blk.drewN h1 nq).alloc _)
  have hbv : BV (w1.setCell ⟨g, 0, none⟩ (.slice (some ⟨g1, 0, none⟩) (m + 1) cp)) B g (.slice (some ⟨g1, 0, none⟩) (m + 1) cp) (n + 1) (D ++ [0]) := by
    refine ⟨hb1.set_ 0 _, ?_, fun x hx => ?_⟩
    · have h1 := ownsRow_setCell_other HO.out (a := ⟨g, 0, none⟩) (by simp [Value.ownBlock]; exact hg1g) (.slice (some ⟨g1, 0, none⟩) (m + 1) cp)
      have e1 : (D ++ [0]).length = m + 1 := by rw [List.length_append, HGM.out]; rfl
      have e2 : bytes (D ++ [0]) = bytes D ++ [.int .u8 0] := List.map_append
      rw [e1, e2]; exact h1
    · rcases List.mem_append.1 hx with hx | hx
      · exact H.out.lt x hx
      · rw [List.mem_singleton.1 hx]; omega
  have HLT := hide hbv.lt
  have hX := hc1.setCell (p := ⟨g, 0, none⟩) (fun _ => Or.inl rfl) (.slice (some ⟨g1, 0, none⟩) (m + 1) cp)
  have e1 := HB1.out
  have HD9 : Hid (k < (D ++ [0] : List Nat).length) := by
    show k < (D ++ [0] : List Nat).length
    rw [List.length_append, HGM.out]; simp; omega
  rw [e1, HB3.out]
  have hb2v := hbv.store (by rw [List.length_append, HGM.out]; rfl) k b'.val b'.isLt hg1g
  rw [set_at HD9.out] at hb2v
  have hY := hX.setCell (p := ⟨g1, k, none⟩) (fun hlt => by
    rcases HAT.out with h | h
    · exact Or.inr h
    · simp [World.setCell] at h
      simp at hlt
      omega) (.int .u8 ((b'.val : Nat) : Int))
  generalize (w1.setCell ⟨g, 0, none⟩ (.slice (some ⟨g1, 0, none⟩) (m + 1) cp)).setCell ⟨g1, k, none⟩ (.int .u8 ((b'.val : Nat) : Int)) = W2 at *
  have HBV := hide hb2v
  have HY := hide hY
  have HX := hide hX
  have hb7 : b / 128 < 2 := by omega
  have hrow : W2.ownsRow B 5 1 (.slice (some ⟨g1, 0, none⟩) (m + 1) cp) (m + 1) (bytes (((D ++ [0] : List Nat).take k ++ [b'.val]) ++ (D ++ [0] : List Nat).drop (k + 1))) := by
    have h1 := HBV.out.row
    rw [show ((D ++ [0] : List Nat).take k ++ b'.val :: (D ++ [0] : List Nat).drop (k + 1)).length = (m + 1) by (rw [← set_at HD9.out, List.length_set]; rw [List.length_append, HGM.out]; rfl)] at h1
    rw [List.append_assoc]; exact h1
  have hsh := shh_cons B W2 (b / 128) hb7 g1 cp (m + 1) (cp - (k + 1)) ((D ++ [0] : List Nat).take k ++ [b'.val]) ((D ++ [0] : List Nat).drop (k + 1)) (by omega) (fun x hx => HLT.out x (List.mem_of_mem_drop hx)) hrow
  rw [HEL.out, List.length_append, HPL.out, List.length_singleton] at hsh
  rw [show m + 1 - (k + 1) = m - k by omega] at hsh
  refine hsh.mono ?_
  clear hsh hrow
  rintro e w3 ⟨⟨y, rfl⟩, hro3, hcg3⟩
  have HR3 := hide hro3
  have HC3 := hide hcg3
  clear hro3 hcg3
  clear hbv hb2v hY hX
  go_wp2
  go_end0
  refine ⟨rfl, ⟨.slice (some ⟨g1, 0, none⟩) (m + 1) cp, _, ⟨?_, ?_, ?_⟩, ?_, ⟨b'.val, HB2.out, rfl⟩⟩, ?_⟩
  · exact HBV.out.blk.chg HC3.out (fun e => hg1g e.symm)
  · have h1 := HR3.out
    have e3 : ((D ++ [0] : List Nat).take k ++ b'.val :: shH (b / 128) ((D ++ [0] : List Nat).drop (k + 1))).length = (m + 1) := by
      rw [List.length_append, List.length_cons, shH_len, HPL.out, HEL.out]
      omega
    rw [e3]
    rw [List.append_assoc] at h1
    exact h1
  · intro x hx
    rcases List.mem_append.1 hx with hx | hx
    · exact HLT.out x (List.mem_of_mem_take hx)
    · rcases List.mem_cons.1 hx with rfl | hx
      · exact b'.isLt
      · exact shH_lt _ _ (fun x hx => HLT.out x (List.mem_of_mem_drop hx)) hb7 x hx
  · intro i hi
    rcases HAT.out with h | h
    · exact Or.inl (by rw [h]; exact hi)
    · simp [World.setCell] at h
      simp [Value.ownBlock] at hi
      exact Or.inr (by omega)
  · exact HY.out.trans HC3.out (fun i hi e => by
      rcases HAT.out with h | h
      · exact Or.inr (by rw [h, e])
      · simp [World.setCell] at h
        omega)

end
end Go.Proofs.Ytammpllfmbmdmaa
