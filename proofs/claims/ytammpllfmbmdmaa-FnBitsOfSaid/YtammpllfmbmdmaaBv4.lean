/- The walk of BitVector.Delete. Printed by gen_bv.py. -/
import Derived.Test.YtammpllfmbmdmaaBv2
namespace Go.Proofs.Ytammpllfmbmdmaa
open Go.RowKit

theorem own_take {w : World} {B e g m cap q : Nat} {xs : List Value} (h : w.ownsRow B e 1 (.slice (some ⟨g, 0, none⟩) m cap) m xs) (hq : q ≤ m) : w.ownsRow B e 1 (.slice (some ⟨g, 0, none⟩) q cap) q (xs.take q) := by
  obtain ⟨hl, h2⟩ := h
  rcases h2 with ⟨h3, _⟩ | ⟨g', cap', cur, hv, hb, hh, hc, hm, hs, ht⟩
  · cases h3
  · injection hv with e1 _ e3
    injection e1 with e1
    injection e1 with e1
    subst e1; subst e3
    refine ⟨by rw [List.length_take]; omega, .inr ⟨g, cap, cur, rfl, hb, hh, by omega, hm, hs, ?_⟩⟩
    rw [← ht, List.take_take, Nat.mul_one, Nat.mul_one, Nat.min_eq_left hq]

section
variable (B g : Nat) (v : Value) (n : Nat) (D : List Nat) (w : World)

set_option maxHeartbeats 1000000 in
set_option maxRecDepth 100000 in
theorem bv_delete_rns (n1 i k o : Nat) (hn1 : n = n1 + 1) (hko : i = 8 * k + o) (ho : o < 8) (hin : i < n) (h : BV w B g v n D) (hn : n ≤ 100000) (hD : k + 1 < D.length) (hg : ¬ (n1 + 7) / 8 < D.length) (hd : D.length ≤ 10000) :
    Calls Try.prog 55 #[.pointer (some ⟨g, 0, none⟩), .int .i64 i] w fun e w' => e = .returned (.tuple #[]) ∧ BVTo B g v n1 (fun D' => ∃ b', bitsB b' = (bitsB (D.getD k 0)).eraseIdx o ++ [((shL 0 (D.drop (k + 1))).2 : Int)] ∧ D' = (D.take k ++ b' :: (shL 0 (D.drop (k + 1))).1).take ((n1 + 7) / 8)) w w' := by
  subst hn1
  obtain ⟨c0, c1, f0, f1⟩ := blk_two h.blk
  have ha := bv_assert B g v (n1 + 1) D w i h (by omega) (by omega)
  obtain ⟨r, cap, rfl, hcap1, hcap2, hrg, hx, hfx, hlt⟩ := h.at_ k (by omega)
  have hq : (i : Int) / 8 = k := by omega
  have hr : (i : Int) % 8 = o := by omega
  have hk2 : k ≤ 100000 := by omega
  have H := hide h
  have HKO := hide hko
  clear h
  generalize hgb : D.getD k 0 = b at *
  have HGB := hide hgb
  clear hgb
  generalize hgm : D.length = m at *
  have HGM := hide hgm
  clear hgm
  obtain ⟨q, hqd⟩ : ∃ q, q = (n1 + 7) / 8 := ⟨_, rfl⟩
  rw [← hqd] at hg ⊢
  have HQD := hide hqd
  have hq9 : q ≤ 100000 := by omega
  clear hqd hko
  have hcne : ¬ cap = k + 1 := by omega
  go_enter Try.func55, Try.ntmps55
  go_wp2_with fail
  refine ha.mono ?_
  clear ha
  rintro e w9 ⟨rfl, rfl⟩
  go_wp2_with fail
  have hDk : D.take (k + 1) = D.take k ++ [b] := by
    have h1 : k < D.length := by rw [HGM.out]; omega
    rw [List.take_succ_eq_append_getElem h1]
    have h2 := HGB.out
    rw [List.getD_eq_getElem?_getD, List.getElem?_eq_getElem h1, Option.getD_some] at h2
    rw [h2]
  have HDK := hide hDk
  have hPl : (D.take k).length = k := by rw [List.length_take, HGM.out]; omega
  have HPL := hide hPl
  clear hDk hPl
  have hrow : (w9.setCell ⟨g, 1, none⟩ (.int .i64 n1)).ownsRow B 5 1 (.slice (some ⟨r, 0, none⟩) m cap) m (bytes (D.take (k + 1) ++ D.drop (k + 1))) := by
    have h1 := (H.out.setN n1).row
    rw [HGM.out] at h1
    rw [List.take_append_drop]; exact h1
  have hsh := shl_cons B (w9.setCell ⟨g, 1, none⟩ (.int .i64 n1)) r cap m (cap - (k + 1)) (D.take (k + 1)) (D.drop (k + 1)) (by omega) (fun x hx => H.out.lt x (List.mem_of_mem_drop hx)) hrow
  rw [show (D.drop (k + 1)).length = m - (k + 1) by rw [List.length_drop, HGM.out], show (D.take (k + 1)).length = k + 1 by rw [List.length_take, HGM.out]; omega] at hsh
  clear hrow
  have hc2 : (shL 0 (D.drop (k + 1))).2 < 2 := shL_c _ 0 (by omega)
  have hRlt : ∀ x ∈ (shL 0 (D.drop (k + 1))).1, x < 256 := shL_lt _ 0 (fun x hx => H.out.lt x (List.mem_of_mem_drop hx)) (by omega)
  have hRlen : (shL 0 (D.drop (k + 1))).1.length = m - (k + 1) := by rw [shL_len, List.length_drop, HGM.out]
  have HLT : Hid (∀ x ∈ D.take k, x < 256) := fun x hx => H.out.lt x (List.mem_of_mem_take hx)
  obtain ⟨c, hcd⟩ : ∃ c, c = (shL 0 (D.drop (k + 1))).2 := ⟨_, rfl⟩
  obtain ⟨R, hRd⟩ : ∃ R, R = (shL 0 (D.drop (k + 1))).1 := ⟨_, rfl⟩
  rw [← hcd] at hsh hc2
  rw [← hRd] at hsh hRlt hRlen
  have HRLT := hide hRlt
  have HRLEN := hide hRlen
  refine hsh.mono ?_
  clear hsh hRlt hRlen
  rintro e w3 ⟨rfl, hro3, hcg3⟩
  have HCD := hide hcd
  have HRD := hide hRd
  clear hcd hRd
  have hbv3 : Blk w3 g 121 #[.slice (some ⟨r, 0, none⟩) m cap, .int .i64 n1] := ((H.out.setN n1).blk).chg hcg3 (fun e => hrg e.symm)
  have d0 : w3.cell? ⟨g, 0, none⟩ = some (.slice (some ⟨r, 0, none⟩) m cap) := hbv3.cell 0
  have d1 : w3.cell? ⟨g, 1, none⟩ = some (.int .i64 n1) := hbv3.cell 1
  have e0 := hbv3.frozen 0
  have e1 := hbv3.frozen 1
  rw [HDK.out, List.append_assoc, List.singleton_append] at hro3
  obtain ⟨dk, ek, hset⟩ := row_mid B hro3
  rw [HPL.out] at dk ek hset
  have HSET := hide hset
  have HC3 := hide hcg3
  have HB3 := hide hbv3
  obtain ⟨b', hb1, hb2⟩ := byte_del ⟨b, hlt⟩ ⟨o, ho⟩ ⟨c, hc2⟩
  have HB1 := hide hb1
  have HB2 := hide hb2
  clear hro3 hcg3 hbv3 hset hb1 hb2
  go_wp2_with fail
  have hx1 := HB1.out
  rw [hx1]
  have hbv : BV (w3.setCell ⟨r, k, none⟩ (.int .u8 ((b'.val : Nat) : Int))) B g (.slice (some ⟨r, 0, none⟩) m cap) n1 (D.take k ++ b'.val :: R) := by
    refine ⟨HB3.out.far (p := ⟨r, k, none⟩) (fun e => hrg e.symm) _, ?_, fun x hx => ?_⟩
    · have e3 : (D.take k ++ b'.val :: R).length = m := by rw [List.length_append, List.length_cons, HPL.out, HRLEN.out]; omega
      rw [e3]; exact HSET.out b'.val
    · rcases List.mem_append.1 hx with hx | hx
      · exact HLT.out x hx
      · rcases List.mem_cons.1 hx with rfl | hx
        · exact b'.isLt
        · exact HRLT.out x hx
  have hcg : Chg (fun i => i = g ∨ (Value.slice (some ⟨r, 0, none⟩) m cap).ownBlock = some i) w9 (w3.setCell ⟨r, k, none⟩ (.int .u8 ((b'.val : Nat) : Int))) :=
    (((Chg.refl (fun i => i = g ∨ (Value.slice (some ⟨r, 0, none⟩) m cap).ownBlock = some i) w9).setCell (p := ⟨g, 1, none⟩) (fun _ => Or.inl rfl) _).trans HC3.out (fun i _ (e : i = r) => Or.inr (congrArg some e.symm))).setCell (p := ⟨r, k, none⟩) (fun _ => Or.inr rfl) _
  generalize w3.setCell ⟨r, k, none⟩ (.int .u8 ((b'.val : Nat) : Int)) = W4 at *
  have hbl := bv_blen B g _ n1 _ W4 hbv (by omega)
  rw [← HQD.out] at hbl
  obtain ⟨x0, x1, y0, y1⟩ := blk_two hbv.blk
  have HBV := hide hbv
  have HCG := hide hcg
  refine hbl.mono ?_
  clear hbl hbv hcg
  rintro e w5 ⟨rfl, rfl⟩
  go_wp2
  go_end0
  have e3 : (D.take k ++ b'.val :: R).length = m := by rw [List.length_append, List.length_cons, HPL.out, HRLEN.out]; omega
  refine ⟨rfl, ⟨.slice (some ⟨r, 0, none⟩) m cap, _, HBV.out, fun i hi => Or.inl hi, ⟨b'.val, ?_, ?_⟩⟩, HCG.out⟩
  · rw [HB2.out]; show _ = _ ++ [((shL 0 (D.drop (k + 1))).2 : Int)]; rw [← HCD.out]
  · rw [← HRD.out]; exact (List.take_of_length_le (by rw [e3]; omega)).symm

set_option maxHeartbeats 1000000 in
set_option maxRecDepth 100000 in
theorem bv_delete_rnt (n1 i k o : Nat) (hn1 : n = n1 + 1) (hko : i = 8 * k + o) (ho : o < 8) (hin : i < n) (h : BV w B g v n D) (hn : n ≤ 100000) (hD : k + 1 < D.length) (hg : (n1 + 7) / 8 < D.length) (hd : D.length ≤ 10000) :
    Calls Try.prog 55 #[.pointer (some ⟨g, 0, none⟩), .int .i64 i] w fun e w' => e = .returned (.tuple #[]) ∧ BVTo B g v n1 (fun D' => ∃ b', bitsB b' = (bitsB (D.getD k 0)).eraseIdx o ++ [((shL 0 (D.drop (k + 1))).2 : Int)] ∧ D' = (D.take k ++ b' :: (shL 0 (D.drop (k + 1))).1).take ((n1 + 7) / 8)) w w' := by
  subst hn1
  obtain ⟨c0, c1, f0, f1⟩ := blk_two h.blk
  have ha := bv_assert B g v (n1 + 1) D w i h (by omega) (by omega)
  obtain ⟨r, cap, rfl, hcap1, hcap2, hrg, hx, hfx, hlt⟩ := h.at_ k (by omega)
  have hq : (i : Int) / 8 = k := by omega
  have hr : (i : Int) % 8 = o := by omega
  have hk2 : k ≤ 100000 := by omega
  have H := hide h
  have HKO := hide hko
  clear h
  generalize hgb : D.getD k 0 = b at *
  have HGB := hide hgb
  clear hgb
  generalize hgm : D.length = m at *
  have HGM := hide hgm
  clear hgm
  obtain ⟨q, hqd⟩ : ∃ q, q = (n1 + 7) / 8 := ⟨_, rfl⟩
  rw [← hqd] at hg ⊢
  have HQD := hide hqd
  have hq9 : q ≤ 100000 := by omega
  clear hqd hko
  have hcne : ¬ cap = k + 1 := by omega
  go_enter Try.func55, Try.ntmps55
  go_wp2_with fail
  refine ha.mono ?_
  clear ha
  rintro e w9 ⟨rfl, rfl⟩
  go_wp2_with fail
  have hDk : D.take (k + 1) = D.take k ++ [b] := by
    have h1 : k < D.length := by rw [HGM.out]; omega
    rw [List.take_succ_eq_append_getElem h1]
    have h2 := HGB.out
    rw [List.getD_eq_getElem?_getD, List.getElem?_eq_getElem h1, Option.getD_some] at h2
    rw [h2]
  have HDK := hide hDk
  have hPl : (D.take k).length = k := by rw [List.length_take, HGM.out]; omega
  have HPL := hide hPl
  clear hDk hPl
  have hrow : (w9.setCell ⟨g, 1, none⟩ (.int .i64 n1)).ownsRow B 5 1 (.slice (some ⟨r, 0, none⟩) m cap) m (bytes (D.take (k + 1) ++ D.drop (k + 1))) := by
    have h1 := (H.out.setN n1).row
    rw [HGM.out] at h1
    rw [List.take_append_drop]; exact h1
  have hsh := shl_cons B (w9.setCell ⟨g, 1, none⟩ (.int .i64 n1)) r cap m (cap - (k + 1)) (D.take (k + 1)) (D.drop (k + 1)) (by omega) (fun x hx => H.out.lt x (List.mem_of_mem_drop hx)) hrow
  rw [show (D.drop (k + 1)).length = m - (k + 1) by rw [List.length_drop, HGM.out], show (D.take (k + 1)).length = k + 1 by rw [List.length_take, HGM.out]; omega] at hsh
  clear hrow
  have hc2 : (shL 0 (D.drop (k + 1))).2 < 2 := shL_c _ 0 (by omega)
  have hRlt : ∀ x ∈ (shL 0 (D.drop (k + 1))).1, x < 256 := shL_lt _ 0 (fun x hx => H.out.lt x (List.mem_of_mem_drop hx)) (by omega)
  have hRlen : (shL 0 (D.drop (k + 1))).1.length = m - (k + 1) := by rw [shL_len, List.length_drop, HGM.out]
  have HLT : Hid (∀ x ∈ D.take k, x < 256) := fun x hx => H.out.lt x (List.mem_of_mem_take hx)
  obtain ⟨c, hcd⟩ : ∃ c, c = (shL 0 (D.drop (k + 1))).2 := ⟨_, rfl⟩
  obtain ⟨R, hRd⟩ : ∃ R, R = (shL 0 (D.drop (k + 1))).1 := ⟨_, rfl⟩
  rw [← hcd] at hsh hc2
  rw [← hRd] at hsh hRlt hRlen
  have HRLT := hide hRlt
  have HRLEN := hide hRlen
  refine hsh.mono ?_
  clear hsh hRlt hRlen
  rintro e w3 ⟨rfl, hro3, hcg3⟩
  have HCD := hide hcd
  have HRD := hide hRd
  clear hcd hRd
  have hbv3 : Blk w3 g 121 #[.slice (some ⟨r, 0, none⟩) m cap, .int .i64 n1] := ((H.out.setN n1).blk).chg hcg3 (fun e => hrg e.symm)
  have d0 : w3.cell? ⟨g, 0, none⟩ = some (.slice (some ⟨r, 0, none⟩) m cap) := hbv3.cell 0
  have d1 : w3.cell? ⟨g, 1, none⟩ = some (.int .i64 n1) := hbv3.cell 1
  have e0 := hbv3.frozen 0
  have e1 := hbv3.frozen 1
  rw [HDK.out, List.append_assoc, List.singleton_append] at hro3
  obtain ⟨dk, ek, hset⟩ := row_mid B hro3
  rw [HPL.out] at dk ek hset
  have HSET := hide hset
  have HC3 := hide hcg3
  have HB3 := hide hbv3
  obtain ⟨b', hb1, hb2⟩ := byte_del ⟨b, hlt⟩ ⟨o, ho⟩ ⟨c, hc2⟩
  have HB1 := hide hb1
  have HB2 := hide hb2
  clear hro3 hcg3 hbv3 hset hb1 hb2
  go_wp2_with fail
  have hx1 := HB1.out
  rw [hx1]
  have hbv : BV (w3.setCell ⟨r, k, none⟩ (.int .u8 ((b'.val : Nat) : Int))) B g (.slice (some ⟨r, 0, none⟩) m cap) n1 (D.take k ++ b'.val :: R) := by
    refine ⟨HB3.out.far (p := ⟨r, k, none⟩) (fun e => hrg e.symm) _, ?_, fun x hx => ?_⟩
    · have e3 : (D.take k ++ b'.val :: R).length = m := by rw [List.length_append, List.length_cons, HPL.out, HRLEN.out]; omega
      rw [e3]; exact HSET.out b'.val
    · rcases List.mem_append.1 hx with hx | hx
      · exact HLT.out x hx
      · rcases List.mem_cons.1 hx with rfl | hx
        · exact b'.isLt
        · exact HRLT.out x hx
  have hcg : Chg (fun i => i = g ∨ (Value.slice (some ⟨r, 0, none⟩) m cap).ownBlock = some i) w9 (w3.setCell ⟨r, k, none⟩ (.int .u8 ((b'.val : Nat) : Int))) :=
    (((Chg.refl (fun i => i = g ∨ (Value.slice (some ⟨r, 0, none⟩) m cap).ownBlock = some i) w9).setCell (p := ⟨g, 1, none⟩) (fun _ => Or.inl rfl) _).trans HC3.out (fun i _ (e : i = r) => Or.inr (congrArg some e.symm))).setCell (p := ⟨r, k, none⟩) (fun _ => Or.inr rfl) _
  generalize w3.setCell ⟨r, k, none⟩ (.int .u8 ((b'.val : Nat) : Int)) = W4 at *
  have hbl := bv_blen B g _ n1 _ W4 hbv (by omega)
  rw [← HQD.out] at hbl
  obtain ⟨x0, x1, y0, y1⟩ := blk_two hbv.blk
  have HBV := hide hbv
  have HCG := hide hcg
  refine hbl.mono ?_
  clear hbl hbv hcg
  rintro e w5 ⟨rfl, rfl⟩
  go_wp2
  go_end0
  have e3 : (D.take k ++ b'.val :: R).length = m := by rw [List.length_append, List.length_cons, HPL.out, HRLEN.out]; omega
  refine ⟨rfl, ⟨.slice (some ⟨r, 0, none⟩) q cap, (D.take k ++ b'.val :: R).take q, ⟨HBV.out.blk.set_ 0 _, ?_, fun x hx => HBV.out.lt x (List.mem_of_mem_take hx)⟩, fun i hi => Or.inl hi, ⟨b'.val, ?_, by rw [← HRD.out]⟩⟩, ?_⟩
  · have h1 := HBV.out.row
    rw [e3] at h1
    have e4 : ((D.take k ++ b'.val :: R).take q).length = q := by rw [List.length_take, e3]; omega
    rw [e4]
    have h2 := own_take h1 (q := q) (by omega)
    have e5 : bytes ((D.take k ++ b'.val :: R).take q) = (bytes (D.take k ++ b'.val :: R)).take q := List.map_take
    rw [e5]
    exact ownsRow_setCell_other h2 (by simp [Value.ownBlock]; exact hrg) _
  · rw [HB2.out]; show _ = _ ++ [((shL 0 (D.drop (k + 1))).2 : Int)]; rw [← HCD.out]
  · exact HCG.out.setCell (p := ⟨g, 0, none⟩) (fun _ => Or.inl rfl) _

set_option maxHeartbeats 1000000 in
set_option maxRecDepth 100000 in
theorem bv_delete_ens (n1 i k o : Nat) (hn1 : n = n1 + 1) (hko : i = 8 * k + o) (ho : o < 8) (hin : i < n) (h : BV w B g v n D) (hn : n ≤ 100000) (hD : k + 1 = D.length) (hg : ¬ (n1 + 7) / 8 < D.length) (hd : D.length ≤ 10000) (hcn : ∀ A c, v = .slice A D.length c → c ≠ k + 1) :
    Calls Try.prog 55 #[.pointer (some ⟨g, 0, none⟩), .int .i64 i] w fun e w' => e = .returned (.tuple #[]) ∧ BVTo B g v n1 (fun D' => ∃ b', bitsB b' = (bitsB (D.getD k 0)).eraseIdx o ++ [((shL 0 (D.drop (k + 1))).2 : Int)] ∧ D' = (D.take k ++ b' :: (shL 0 (D.drop (k + 1))).1).take ((n1 + 7) / 8)) w w' := by
  subst hn1
  obtain ⟨c0, c1, f0, f1⟩ := blk_two h.blk
  have ha := bv_assert B g v (n1 + 1) D w i h (by omega) (by omega)
  obtain ⟨r, cap, rfl, hcap1, hcap2, hrg, hx, hfx, hlt⟩ := h.at_ k (by omega)
  have hcn2 := hcn _ _ rfl
  clear hcn
  have hq : (i : Int) / 8 = k := by omega
  have hr : (i : Int) % 8 = o := by omega
  have hk2 : k ≤ 100000 := by omega
  have H := hide h
  have HKO := hide hko
  clear h
  generalize hgb : D.getD k 0 = b at *
  have HGB := hide hgb
  clear hgb
  generalize hgm : D.length = m at *
  have HGM := hide hgm
  clear hgm
  obtain ⟨q, hqd⟩ : ∃ q, q = (n1 + 7) / 8 := ⟨_, rfl⟩
  rw [← hqd] at hg ⊢
  have HQD := hide hqd
  have hq9 : q ≤ 100000 := by omega
  clear hqd hko
  subst hD
  have hcne : ¬ cap = k + 1 := hcn2
  go_enter Try.func55, Try.ntmps55
  go_wp2_with fail
  refine ha.mono ?_
  clear ha
  rintro e w9 ⟨rfl, rfl⟩
  go_wp2_with fail
  have hDk : D.take (k + 1) = D.take k ++ [b] := by
    have h1 : k < D.length := by rw [HGM.out]; omega
    rw [List.take_succ_eq_append_getElem h1]
    have h2 := HGB.out
    rw [List.getD_eq_getElem?_getD, List.getElem?_eq_getElem h1, Option.getD_some] at h2
    rw [h2]
  have HDK := hide hDk
  have hPl : (D.take k).length = k := by rw [List.length_take, HGM.out]; omega
  have HPL := hide hPl
  clear hDk hPl
  have hdr : D.drop (k + 1) = [] := List.drop_eq_nil_of_le (by rw [HGM.out]; omega)
  have hsh : ∀ SA lc, Calls Try.prog 93 #[.int .u8 0, .slice SA 0 lc] (w9.setCell ⟨g, 1, none⟩ (.int .i64 n1)) fun e w' => e = .returned (.int .u8 ((shL 0 (D.drop (k + 1))).2 : Nat)) ∧ w'.ownsRow B 5 1 (.slice (some ⟨r, 0, none⟩) (k + 1) cap) (k + 1) (bytes (D.take (k + 1) ++ (shL 0 (D.drop (k + 1))).1)) ∧ Chg (fun i => i = r) (w9.setCell ⟨g, 1, none⟩ (.int .i64 n1)) w' := by
    intro SA lc
    refine (shl_nil (w9.setCell ⟨g, 1, none⟩ (.int .i64 n1)) SA lc).mono ?_
    rintro e w' ⟨rfl, rfl⟩
    refine ⟨by rw [hdr]; rfl, ?_, Chg.refl _ _⟩
    have h1 := (H.out.setN n1).row
    rw [HGM.out] at h1
    rw [hdr]
    show World.ownsRow _ _ _ _ _ _ (bytes (D.take (k + 1) ++ []))
    rw [List.append_nil, List.take_of_length_le (by rw [HGM.out]; omega)]
    exact h1
  clear hdr
  have hc2 : (shL 0 (D.drop (k + 1))).2 < 2 := shL_c _ 0 (by omega)
  have hRlt : ∀ x ∈ (shL 0 (D.drop (k + 1))).1, x < 256 := shL_lt _ 0 (fun x hx => H.out.lt x (List.mem_of_mem_drop hx)) (by omega)
  have hRlen : (shL 0 (D.drop (k + 1))).1.length = (k + 1) - (k + 1) := by rw [shL_len, List.length_drop, HGM.out]
  have HLT : Hid (∀ x ∈ D.take k, x < 256) := fun x hx => H.out.lt x (List.mem_of_mem_take hx)
  obtain ⟨c, hcd⟩ : ∃ c, c = (shL 0 (D.drop (k + 1))).2 := ⟨_, rfl⟩
  obtain ⟨R, hRd⟩ : ∃ R, R = (shL 0 (D.drop (k + 1))).1 := ⟨_, rfl⟩
  rw [← hcd] at hc2
  rw [← hRd] at hRlt hRlen
  simp only [← hcd, ← hRd] at hsh
  have HRLT := hide hRlt
  have HRLEN := hide hRlen
  refine (hsh _ _).mono ?_
  clear hsh hRlt hRlen
  rintro e w3 ⟨rfl, hro3, hcg3⟩
  have HCD := hide hcd
  have HRD := hide hRd
  clear hcd hRd
  have hbv3 : Blk w3 g 121 #[.slice (some ⟨r, 0, none⟩) (k + 1) cap, .int .i64 n1] := ((H.out.setN n1).blk).chg hcg3 (fun e => hrg e.symm)
  have d0 : w3.cell? ⟨g, 0, none⟩ = some (.slice (some ⟨r, 0, none⟩) (k + 1) cap) := hbv3.cell 0
  have d1 : w3.cell? ⟨g, 1, none⟩ = some (.int .i64 n1) := hbv3.cell 1
  have e0 := hbv3.frozen 0
  have e1 := hbv3.frozen 1
  rw [HDK.out, List.append_assoc, List.singleton_append] at hro3
  obtain ⟨dk, ek, hset⟩ := row_mid B hro3
  rw [HPL.out] at dk ek hset
  have HSET := hide hset
  have HC3 := hide hcg3
  have HB3 := hide hbv3
  obtain ⟨b', hb1, hb2⟩ := byte_del ⟨b, hlt⟩ ⟨o, ho⟩ ⟨c, hc2⟩
  have HB1 := hide hb1
  have HB2 := hide hb2
  clear hro3 hcg3 hbv3 hset hb1 hb2
  go_wp2_with fail
  have hx1 := HB1.out
  rw [hx1]
  have hbv : BV (w3.setCell ⟨r, k, none⟩ (.int .u8 ((b'.val : Nat) : Int))) B g (.slice (some ⟨r, 0, none⟩) (k + 1) cap) n1 (D.take k ++ b'.val :: R) := by
    refine ⟨HB3.out.far (p := ⟨r, k, none⟩) (fun e => hrg e.symm) _, ?_, fun x hx => ?_⟩
    · have e3 : (D.take k ++ b'.val :: R).length = (k + 1) := by rw [List.length_append, List.length_cons, HPL.out, HRLEN.out]; omega
      rw [e3]; exact HSET.out b'.val
    · rcases List.mem_append.1 hx with hx | hx
      · exact HLT.out x hx
      · rcases List.mem_cons.1 hx with rfl | hx
        · exact b'.isLt
        · exact HRLT.out x hx
  have hcg : Chg (fun i => i = g ∨ (Value.slice (some ⟨r, 0, none⟩) (k + 1) cap).ownBlock = some i) w9 (w3.setCell ⟨r, k, none⟩ (.int .u8 ((b'.val : Nat) : Int))) :=
    (((Chg.refl (fun i => i = g ∨ (Value.slice (some ⟨r, 0, none⟩) (k + 1) cap).ownBlock = some i) w9).setCell (p := ⟨g, 1, none⟩) (fun _ => Or.inl rfl) _).trans HC3.out (fun i _ (e : i = r) => Or.inr (congrArg some e.symm))).setCell (p := ⟨r, k, none⟩) (fun _ => Or.inr rfl) _
  generalize w3.setCell ⟨r, k, none⟩ (.int .u8 ((b'.val : Nat) : Int)) = W4 at *
  have hbl := bv_blen B g _ n1 _ W4 hbv (by omega)
  rw [← HQD.out] at hbl
  obtain ⟨x0, x1, y0, y1⟩ := blk_two hbv.blk
  have HBV := hide hbv
  have HCG := hide hcg
  refine hbl.mono ?_
  clear hbl hbv hcg
  rintro e w5 ⟨rfl, rfl⟩
  go_wp2
  go_end0
  have e3 : (D.take k ++ b'.val :: R).length = (k + 1) := by rw [List.length_append, List.length_cons, HPL.out, HRLEN.out]; omega
  refine ⟨rfl, ⟨.slice (some ⟨r, 0, none⟩) (k + 1) cap, _, HBV.out, fun i hi => Or.inl hi, ⟨b'.val, ?_, ?_⟩⟩, HCG.out⟩
  · rw [HB2.out]; show _ = _ ++ [((shL 0 (D.drop (k + 1))).2 : Int)]; rw [← HCD.out]
  · rw [← HRD.out]; exact (List.take_of_length_le (by rw [e3]; omega)).symm

set_option maxHeartbeats 1000000 in
set_option maxRecDepth 100000 in
theorem bv_delete_ent (n1 i k o : Nat) (hn1 : n = n1 + 1) (hko : i = 8 * k + o) (ho : o < 8) (hin : i < n) (h : BV w B g v n D) (hn : n ≤ 100000) (hD : k + 1 = D.length) (hg : (n1 + 7) / 8 < D.length) (hd : D.length ≤ 10000) (hcn : ∀ A c, v = .slice A D.length c → c ≠ k + 1) :
    Calls Try.prog 55 #[.pointer (some ⟨g, 0, none⟩), .int .i64 i] w fun e w' => e = .returned (.tuple #[]) ∧ BVTo B g v n1 (fun D' => ∃ b', bitsB b' = (bitsB (D.getD k 0)).eraseIdx o ++ [((shL 0 (D.drop (k + 1))).2 : Int)] ∧ D' = (D.take k ++ b' :: (shL 0 (D.drop (k + 1))).1).take ((n1 + 7) / 8)) w w' := by
  subst hn1
  obtain ⟨c0, c1, f0, f1⟩ := blk_two h.blk
  have ha := bv_assert B g v (n1 + 1) D w i h (by omega) (by omega)
  obtain ⟨r, cap, rfl, hcap1, hcap2, hrg, hx, hfx, hlt⟩ := h.at_ k (by omega)
  have hcn2 := hcn _ _ rfl
  clear hcn
  have hq : (i : Int) / 8 = k := by omega
  have hr : (i : Int) % 8 = o := by omega
  have hk2 : k ≤ 100000 := by omega
  have H := hide h
  have HKO := hide hko
  clear h
  generalize hgb : D.getD k 0 = b at *
  have HGB := hide hgb
  clear hgb
  generalize hgm : D.length = m at *
  have HGM := hide hgm
  clear hgm
  obtain ⟨q, hqd⟩ : ∃ q, q = (n1 + 7) / 8 := ⟨_, rfl⟩
  rw [← hqd] at hg ⊢
  have HQD := hide hqd
  have hq9 : q ≤ 100000 := by omega
  clear hqd hko
  subst hD
  have hcne : ¬ cap = k + 1 := hcn2
  go_enter Try.func55, Try.ntmps55
  go_wp2_with fail
  refine ha.mono ?_
  clear ha
  rintro e w9 ⟨rfl, rfl⟩
  go_wp2_with fail
  have hDk : D.take (k + 1) = D.take k ++ [b] := by
    have h1 : k < D.length := by rw [HGM.out]; omega
    rw [List.take_succ_eq_append_getElem h1]
    have h2 := HGB.out
    rw [List.getD_eq_getElem?_getD, List.getElem?_eq_getElem h1, Option.getD_some] at h2
    rw [h2]
  have HDK := hide hDk
  have hPl : (D.take k).length = k := by rw [List.length_take, HGM.out]; omega
  have HPL := hide hPl
  clear hDk hPl
  have hdr : D.drop (k + 1) = [] := List.drop_eq_nil_of_le (by rw [HGM.out]; omega)
  have hsh : ∀ SA lc, Calls Try.prog 93 #[.int .u8 0, .slice SA 0 lc] (w9.setCell ⟨g, 1, none⟩ (.int .i64 n1)) fun e w' => e = .returned (.int .u8 ((shL 0 (D.drop (k + 1))).2 : Nat)) ∧ w'.ownsRow B 5 1 (.slice (some ⟨r, 0, none⟩) (k + 1) cap) (k + 1) (bytes (D.take (k + 1) ++ (shL 0 (D.drop (k + 1))).1)) ∧ Chg (fun i => i = r) (w9.setCell ⟨g, 1, none⟩ (.int .i64 n1)) w' := by
    intro SA lc
    refine (shl_nil (w9.setCell ⟨g, 1, none⟩ (.int .i64 n1)) SA lc).mono ?_
    rintro e w' ⟨rfl, rfl⟩
    refine ⟨by rw [hdr]; rfl, ?_, Chg.refl _ _⟩
    have h1 := (H.out.setN n1).row
    rw [HGM.out] at h1
    rw [hdr]
    show World.ownsRow _ _ _ _ _ _ (bytes (D.take (k + 1) ++ []))
    rw [List.append_nil, List.take_of_length_le (by rw [HGM.out]; omega)]
    exact h1
  clear hdr
  have hc2 : (shL 0 (D.drop (k + 1))).2 < 2 := shL_c _ 0 (by omega)
  have hRlt : ∀ x ∈ (shL 0 (D.drop (k + 1))).1, x < 256 := shL_lt _ 0 (fun x hx => H.out.lt x (List.mem_of_mem_drop hx)) (by omega)
  have hRlen : (shL 0 (D.drop (k + 1))).1.length = (k + 1) - (k + 1) := by rw [shL_len, List.length_drop, HGM.out]
  have HLT : Hid (∀ x ∈ D.take k, x < 256) := fun x hx => H.out.lt x (List.mem_of_mem_take hx)
  obtain ⟨c, hcd⟩ : ∃ c, c = (shL 0 (D.drop (k + 1))).2 := ⟨_, rfl⟩
  obtain ⟨R, hRd⟩ : ∃ R, R = (shL 0 (D.drop (k + 1))).1 := ⟨_, rfl⟩
  rw [← hcd] at hc2
  rw [← hRd] at hRlt hRlen
  simp only [← hcd, ← hRd] at hsh
  have HRLT := hide hRlt
  have HRLEN := hide hRlen
  refine (hsh _ _).mono ?_
  clear hsh hRlt hRlen
  rintro e w3 ⟨rfl, hro3, hcg3⟩
  have HCD := hide hcd
  have HRD := hide hRd
  clear hcd hRd
  have hbv3 : Blk w3 g 121 #[.slice (some ⟨r, 0, none⟩) (k + 1) cap, .int .i64 n1] := ((H.out.setN n1).blk).chg hcg3 (fun e => hrg e.symm)
  have d0 : w3.cell? ⟨g, 0, none⟩ = some (.slice (some ⟨r, 0, none⟩) (k + 1) cap) := hbv3.cell 0
  have d1 : w3.cell? ⟨g, 1, none⟩ = some (.int .i64 n1) := hbv3.cell 1
  have e0 := hbv3.frozen 0
  have e1 := hbv3.frozen 1
  rw [HDK.out, List.append_assoc, List.singleton_append] at hro3
  obtain ⟨dk, ek, hset⟩ := row_mid B hro3
  rw [HPL.out] at dk ek hset
  have HSET := hide hset
  have HC3 := hide hcg3
  have HB3 := hide hbv3
  obtain ⟨b', hb1, hb2⟩ := byte_del ⟨b, hlt⟩ ⟨o, ho⟩ ⟨c, hc2⟩
  have HB1 := hide hb1
  have HB2 := hide hb2
  clear hro3 hcg3 hbv3 hset hb1 hb2
  go_wp2_with fail
  have hx1 := HB1.out
  rw [hx1]
  have hbv : BV (w3.setCell ⟨r, k, none⟩ (.int .u8 ((b'.val : Nat) : Int))) B g (.slice (some ⟨r, 0, none⟩) (k + 1) cap) n1 (D.take k ++ b'.val :: R) := by
    refine ⟨HB3.out.far (p := ⟨r, k, none⟩) (fun e => hrg e.symm) _, ?_, fun x hx => ?_⟩
    · have e3 : (D.take k ++ b'.val :: R).length = (k + 1) := by rw [List.length_append, List.length_cons, HPL.out, HRLEN.out]; omega
      rw [e3]; exact HSET.out b'.val
    · rcases List.mem_append.1 hx with hx | hx
      · exact HLT.out x hx
      · rcases List.mem_cons.1 hx with rfl | hx
        · exact b'.isLt
        · exact HRLT.out x hx
  have hcg : Chg (fun i => i = g ∨ (Value.slice (some ⟨r, 0, none⟩) (k + 1) cap).ownBlock = some i) w9 (w3.setCell ⟨r, k, none⟩ (.int .u8 ((b'.val : Nat) : Int))) :=
    (((Chg.refl (fun i => i = g ∨ (Value.slice (some ⟨r, 0, none⟩) (k + 1) cap).ownBlock = some i) w9).setCell (p := ⟨g, 1, none⟩) (fun _ => Or.inl rfl) _).trans HC3.out (fun i _ (e : i = r) => Or.inr (congrArg some e.symm))).setCell (p := ⟨r, k, none⟩) (fun _ => Or.inr rfl) _
  generalize w3.setCell ⟨r, k, none⟩ (.int .u8 ((b'.val : Nat) : Int)) = W4 at *
  have hbl := bv_blen B g _ n1 _ W4 hbv (by omega)
  rw [← HQD.out] at hbl
  obtain ⟨x0, x1, y0, y1⟩ := blk_two hbv.blk
  have HBV := hide hbv
  have HCG := hide hcg
  refine hbl.mono ?_
  clear hbl hbv hcg
  rintro e w5 ⟨rfl, rfl⟩
  go_wp2
  go_end0
  have e3 : (D.take k ++ b'.val :: R).length = (k + 1) := by rw [List.length_append, List.length_cons, HPL.out, HRLEN.out]; omega
  refine ⟨rfl, ⟨.slice (some ⟨r, 0, none⟩) q cap, (D.take k ++ b'.val :: R).take q, ⟨HBV.out.blk.set_ 0 _, ?_, fun x hx => HBV.out.lt x (List.mem_of_mem_take hx)⟩, fun i hi => Or.inl hi, ⟨b'.val, ?_, by rw [← HRD.out]⟩⟩, ?_⟩
  · have h1 := HBV.out.row
    rw [e3] at h1
    have e4 : ((D.take k ++ b'.val :: R).take q).length = q := by rw [List.length_take, e3]; omega
    rw [e4]
    have h2 := own_take h1 (q := q) (by omega)
    have e5 : bytes ((D.take k ++ b'.val :: R).take q) = (bytes (D.take k ++ b'.val :: R)).take q := List.map_take
    rw [e5]
    exact ownsRow_setCell_other h2 (by simp [Value.ownBlock]; exact hrg) _
  · rw [HB2.out]; show _ = _ ++ [((shL 0 (D.drop (k + 1))).2 : Int)]; rw [← HCD.out]
  · exact HCG.out.setCell (p := ⟨g, 0, none⟩) (fun _ => Or.inl rfl) _

set_option maxHeartbeats 1000000 in
set_option maxRecDepth 100000 in
theorem bv_delete_eys (n1 i k o : Nat) (hn1 : n = n1 + 1) (hko : i = 8 * k + o) (ho : o < 8) (hin : i < n) (h : BV w B g v n D) (hn : n ≤ 100000) (hD : k + 1 = D.length) (hg : ¬ (n1 + 7) / 8 < D.length) (hd : D.length ≤ 10000) (hcn : ∀ A c, v = .slice A D.length c → c = k + 1) :
    Calls Try.prog 55 #[.pointer (some ⟨g, 0, none⟩), .int .i64 i] w fun e w' => e = .returned (.tuple #[]) ∧ BVTo B g v n1 (fun D' => ∃ b', bitsB b' = (bitsB (D.getD k 0)).eraseIdx o ++ [((shL 0 (D.drop (k + 1))).2 : Int)] ∧ D' = (D.take k ++ b' :: (shL 0 (D.drop (k + 1))).1).take ((n1 + 7) / 8)) w w' := by
  subst hn1
  obtain ⟨c0, c1, f0, f1⟩ := blk_two h.blk
  have ha := bv_assert B g v (n1 + 1) D w i h (by omega) (by omega)
  obtain ⟨r, cap, rfl, hcap1, hcap2, hrg, hx, hfx, hlt⟩ := h.at_ k (by omega)
  have hcn2 := hcn _ _ rfl
  clear hcn
  have hq : (i : Int) / 8 = k := by omega
  have hr : (i : Int) % 8 = o := by omega
  have hk2 : k ≤ 100000 := by omega
  have H := hide h
  have HKO := hide hko
  clear h
  generalize hgb : D.getD k 0 = b at *
  have HGB := hide hgb
  clear hgb
  generalize hgm : D.length = m at *
  have HGM := hide hgm
  clear hgm
  obtain ⟨q, hqd⟩ : ∃ q, q = (n1 + 7) / 8 := ⟨_, rfl⟩
  rw [← hqd] at hg ⊢
  have HQD := hide hqd
  have hq9 : q ≤ 100000 := by omega
  clear hqd hko
  subst hD
  obtain rfl : cap = k + 1 := hcn2
  go_enter Try.func55, Try.ntmps55
  go_wp2_with fail
  refine ha.mono ?_
  clear ha
  rintro e w9 ⟨rfl, rfl⟩
  go_wp2_with fail
  have hDk : D.take (k + 1) = D.take k ++ [b] := by
    have h1 : k < D.length := by rw [HGM.out]; omega
    rw [List.take_succ_eq_append_getElem h1]
    have h2 := HGB.out
    rw [List.getD_eq_getElem?_getD, List.getElem?_eq_getElem h1, Option.getD_some] at h2
    rw [h2]
  have HDK := hide hDk
  have hPl : (D.take k).length = k := by rw [List.length_take, HGM.out]; omega
  have HPL := hide hPl
  clear hDk hPl
  have hdr : D.drop (k + 1) = [] := List.drop_eq_nil_of_le (by rw [HGM.out]; omega)
  have hsh : ∀ SA lc, Calls Try.prog 93 #[.int .u8 0, .slice SA 0 lc] (w9.setCell ⟨g, 1, none⟩ (.int .i64 n1)) fun e w' => e = .returned (.int .u8 ((shL 0 (D.drop (k + 1))).2 : Nat)) ∧ w'.ownsRow B 5 1 (.slice (some ⟨r, 0, none⟩) (k + 1) (k + 1)) (k + 1) (bytes (D.take (k + 1) ++ (shL 0 (D.drop (k + 1))).1)) ∧ Chg (fun i => i = r) (w9.setCell ⟨g, 1, none⟩ (.int .i64 n1)) w' := by
    intro SA lc
    refine (shl_nil (w9.setCell ⟨g, 1, none⟩ (.int .i64 n1)) SA lc).mono ?_
    rintro e w' ⟨rfl, rfl⟩
    refine ⟨by rw [hdr]; rfl, ?_, Chg.refl _ _⟩
    have h1 := (H.out.setN n1).row
    rw [HGM.out] at h1
    rw [hdr]
    show World.ownsRow _ _ _ _ _ _ (bytes (D.take (k + 1) ++ []))
    rw [List.append_nil, List.take_of_length_le (by rw [HGM.out]; omega)]
    exact h1
  clear hdr
  have hc2 : (shL 0 (D.drop (k + 1))).2 < 2 := shL_c _ 0 (by omega)
  have hRlt : ∀ x ∈ (shL 0 (D.drop (k + 1))).1, x < 256 := shL_lt _ 0 (fun x hx => H.out.lt x (List.mem_of_mem_drop hx)) (by omega)
  have hRlen : (shL 0 (D.drop (k + 1))).1.length = (k + 1) - (k + 1) := by rw [shL_len, List.length_drop, HGM.out]
  have HLT : Hid (∀ x ∈ D.take k, x < 256) := fun x hx => H.out.lt x (List.mem_of_mem_take hx)
  obtain ⟨c, hcd⟩ : ∃ c, c = (shL 0 (D.drop (k + 1))).2 := ⟨_, rfl⟩
  obtain ⟨R, hRd⟩ : ∃ R, R = (shL 0 (D.drop (k + 1))).1 := ⟨_, rfl⟩
  rw [← hcd] at hc2
  rw [← hRd] at hRlt hRlen
  simp only [← hcd, ← hRd] at hsh
  have HRLT := hide hRlt
  have HRLEN := hide hRlen
  refine (hsh _ _).mono ?_
  clear hsh hRlt hRlen
  rintro e w3 ⟨rfl, hro3, hcg3⟩
  have HCD := hide hcd
  have HRD := hide hRd
  clear hcd hRd
  have hbv3 : Blk w3 g 121 #[.slice (some ⟨r, 0, none⟩) (k + 1) (k + 1), .int .i64 n1] := ((H.out.setN n1).blk).chg hcg3 (fun e => hrg e.symm)
  have d0 : w3.cell? ⟨g, 0, none⟩ = some (.slice (some ⟨r, 0, none⟩) (k + 1) (k + 1)) := hbv3.cell 0
  have d1 : w3.cell? ⟨g, 1, none⟩ = some (.int .i64 n1) := hbv3.cell 1
  have e0 := hbv3.frozen 0
  have e1 := hbv3.frozen 1
  rw [HDK.out, List.append_assoc, List.singleton_append] at hro3
  obtain ⟨dk, ek, hset⟩ := row_mid B hro3
  rw [HPL.out] at dk ek hset
  have HSET := hide hset
  have HC3 := hide hcg3
  have HB3 := hide hbv3
  obtain ⟨b', hb1, hb2⟩ := byte_del ⟨b, hlt⟩ ⟨o, ho⟩ ⟨c, hc2⟩
  have HB1 := hide hb1
  have HB2 := hide hb2
  clear hro3 hcg3 hbv3 hset hb1 hb2
  go_wp2_with fail
  have hx1 := HB1.out
  rw [hx1]
  have hbv : BV (w3.setCell ⟨r, k, none⟩ (.int .u8 ((b'.val : Nat) : Int))) B g (.slice (some ⟨r, 0, none⟩) (k + 1) (k + 1)) n1 (D.take k ++ b'.val :: R) := by
    refine ⟨HB3.out.far (p := ⟨r, k, none⟩) (fun e => hrg e.symm) _, ?_, fun x hx => ?_⟩
    · have e3 : (D.take k ++ b'.val :: R).length = (k + 1) := by rw [List.length_append, List.length_cons, HPL.out, HRLEN.out]; omega
      rw [e3]; exact HSET.out b'.val
    · rcases List.mem_append.1 hx with hx | hx
      · exact HLT.out x hx
      · rcases List.mem_cons.1 hx with rfl | hx
        · exact b'.isLt
        · exact HRLT.out x hx
  have hcg : Chg (fun i => i = g ∨ (Value.slice (some ⟨r, 0, none⟩) (k + 1) (k + 1)).ownBlock = some i) w9 (w3.setCell ⟨r, k, none⟩ (.int .u8 ((b'.val : Nat) : Int))) :=
    (((Chg.refl (fun i => i = g ∨ (Value.slice (some ⟨r, 0, none⟩) (k + 1) (k + 1)).ownBlock = some i) w9).setCell (p := ⟨g, 1, none⟩) (fun _ => Or.inl rfl) _).trans HC3.out (fun i _ (e : i = r) => Or.inr (congrArg some e.symm))).setCell (p := ⟨r, k, none⟩) (fun _ => Or.inr rfl) _
  generalize w3.setCell ⟨r, k, none⟩ (.int .u8 ((b'.val : Nat) : Int)) = W4 at *
  have hbl := bv_blen B g _ n1 _ W4 hbv (by omega)
  rw [← HQD.out] at hbl
  obtain ⟨x0, x1, y0, y1⟩ := blk_two hbv.blk
  have HBV := hide hbv
  have HCG := hide hcg
  refine hbl.mono ?_
  clear hbl hbv hcg
  rintro e w5 ⟨rfl, rfl⟩
  go_wp2
  go_end0
  have e3 : (D.take k ++ b'.val :: R).length = (k + 1) := by rw [List.length_append, List.length_cons, HPL.out, HRLEN.out]; omega
  refine ⟨rfl, ⟨.slice (some ⟨r, 0, none⟩) (k + 1) (k + 1), _, HBV.out, fun i hi => Or.inl hi, ⟨b'.val, ?_, ?_⟩⟩, HCG.out⟩
  · rw [HB2.out]; show _ = _ ++ [((shL 0 (D.drop (k + 1))).2 : Int)]; rw [← HCD.out]
  · rw [← HRD.out]; exact (List.take_of_length_le (by rw [e3]; omega)).symm

set_option maxHeartbeats 1000000 in
set_option maxRecDepth 100000 in
theorem bv_delete_eyt (n1 i k o : Nat) (hn1 : n = n1 + 1) (hko : i = 8 * k + o) (ho : o < 8) (hin : i < n) (h : BV w B g v n D) (hn : n ≤ 100000) (hD : k + 1 = D.length) (hg : (n1 + 7) / 8 < D.length) (hd : D.length ≤ 10000) (hcn : ∀ A c, v = .slice A D.length c → c = k + 1) :
    Calls Try.prog 55 #[.pointer (some ⟨g, 0, none⟩), .int .i64 i] w fun e w' => e = .returned (.tuple #[]) ∧ BVTo B g v n1 (fun D' => ∃ b', bitsB b' = (bitsB (D.getD k 0)).eraseIdx o ++ [((shL 0 (D.drop (k + 1))).2 : Int)] ∧ D' = (D.take k ++ b' :: (shL 0 (D.drop (k + 1))).1).take ((n1 + 7) / 8)) w w' := by
  subst hn1
  obtain ⟨c0, c1, f0, f1⟩ := blk_two h.blk
  have ha := bv_assert B g v (n1 + 1) D w i h (by omega) (by omega)
  obtain ⟨r, cap, rfl, hcap1, hcap2, hrg, hx, hfx, hlt⟩ := h.at_ k (by omega)
  have hcn2 := hcn _ _ rfl
  clear hcn
  have hq : (i : Int) / 8 = k := by omega
  have hr : (i : Int) % 8 = o := by omega
  have hk2 : k ≤ 100000 := by omega
  have H := hide h
  have HKO := hide hko
  clear h
  generalize hgb : D.getD k 0 = b at *
  have HGB := hide hgb
  clear hgb
  generalize hgm : D.length = m at *
  have HGM := hide hgm
  clear hgm
  obtain ⟨q, hqd⟩ : ∃ q, q = (n1 + 7) / 8 := ⟨_, rfl⟩
  rw [← hqd] at hg ⊢
  have HQD := hide hqd
  have hq9 : q ≤ 100000 := by omega
  clear hqd hko
  subst hD
  obtain rfl : cap = k + 1 := hcn2
  go_enter Try.func55, Try.ntmps55
  go_wp2_with fail
  refine ha.mono ?_
  clear ha
  rintro e w9 ⟨rfl, rfl⟩
  go_wp2_with fail
  have hDk : D.take (k + 1) = D.take k ++ [b] := by
    have h1 : k < D.length := by rw [HGM.out]; omega
    rw [List.take_succ_eq_append_getElem h1]
    have h2 := HGB.out
    rw [List.getD_eq_getElem?_getD, List.getElem?_eq_getElem h1, Option.getD_some] at h2
    rw [h2]
  have HDK := hide hDk
  have hPl : (D.take k).length = k := by rw [List.length_take, HGM.out]; omega
  have HPL := hide hPl
  clear hDk hPl
  have hdr : D.drop (k + 1) = [] := List.drop_eq_nil_of_le (by rw [HGM.out]; omega)
  have hsh : ∀ SA lc, Calls Try.prog 93 #[.int .u8 0, .slice SA 0 lc] (w9.setCell ⟨g, 1, none⟩ (.int .i64 n1)) fun e w' => e = .returned (.int .u8 ((shL 0 (D.drop (k + 1))).2 : Nat)) ∧ w'.ownsRow B 5 1 (.slice (some ⟨r, 0, none⟩) (k + 1) (k + 1)) (k + 1) (bytes (D.take (k + 1) ++ (shL 0 (D.drop (k + 1))).1)) ∧ Chg (fun i => i = r) (w9.setCell ⟨g, 1, none⟩ (.int .i64 n1)) w' := by
    intro SA lc
    refine (shl_nil (w9.setCell ⟨g, 1, none⟩ (.int .i64 n1)) SA lc).mono ?_
    rintro e w' ⟨rfl, rfl⟩
    refine ⟨by rw [hdr]; rfl, ?_, Chg.refl _ _⟩
    have h1 := (H.out.setN n1).row
    rw [HGM.out] at h1
    rw [hdr]
    show World.ownsRow _ _ _ _ _ _ (bytes (D.take (k + 1) ++ []))
    rw [List.append_nil, List.take_of_length_le (by rw [HGM.out]; omega)]
    exact h1
  clear hdr
  have hc2 : (shL 0 (D.drop (k + 1))).2 < 2 := shL_c _ 0 (by omega)
  have hRlt : ∀ x ∈ (shL 0 (D.drop (k + 1))).1, x < 256 := shL_lt _ 0 (fun x hx => H.out.lt x (List.mem_of_mem_drop hx)) (by omega)
  have hRlen : (shL 0 (D.drop (k + 1))).1.length = (k + 1) - (k + 1) := by rw [shL_len, List.length_drop, HGM.out]
  have HLT : Hid (∀ x ∈ D.take k, x < 256) := fun x hx => H.out.lt x (List.mem_of_mem_take hx)
  obtain ⟨c, hcd⟩ : ∃ c, c = (shL 0 (D.drop (k + 1))).2 := ⟨_, rfl⟩
  obtain ⟨R, hRd⟩ : ∃ R, R = (shL 0 (D.drop (k + 1))).1 := ⟨_, rfl⟩
  rw [← hcd] at hc2
  rw [← hRd] at hRlt hRlen
  simp only [← hcd, ← hRd] at hsh
  have HRLT := hide hRlt
  have HRLEN := hide hRlen
  refine (hsh _ _).mono ?_
  clear hsh hRlt hRlen
  rintro e w3 ⟨rfl, hro3, hcg3⟩
  have HCD := hide hcd
  have HRD := hide hRd
  clear hcd hRd
  have hbv3 : Blk w3 g 121 #[.slice (some ⟨r, 0, none⟩) (k + 1) (k + 1), .int .i64 n1] := ((H.out.setN n1).blk).chg hcg3 (fun e => hrg e.symm)
  have d0 : w3.cell? ⟨g, 0, none⟩ = some (.slice (some ⟨r, 0, none⟩) (k + 1) (k + 1)) := hbv3.cell 0
  have d1 : w3.cell? ⟨g, 1, none⟩ = some (.int .i64 n1) := hbv3.cell 1
  have e0 := hbv3.frozen 0
  have e1 := hbv3.frozen 1
  rw [HDK.out, List.append_assoc, List.singleton_append] at hro3
  obtain ⟨dk, ek, hset⟩ := row_mid B hro3
  rw [HPL.out] at dk ek hset
  have HSET := hide hset
  have HC3 := hide hcg3
  have HB3 := hide hbv3
  obtain ⟨b', hb1, hb2⟩ := byte_del ⟨b, hlt⟩ ⟨o, ho⟩ ⟨c, hc2⟩
  have HB1 := hide hb1
  have HB2 := hide hb2
  clear hro3 hcg3 hbv3 hset hb1 hb2
  go_wp2_with fail
  have hx1 := HB1.out
  rw [hx1]
  have hbv : BV (w3.setCell ⟨r, k, none⟩ (.int .u8 ((b'.val : Nat) : Int))) B g (.slice (some ⟨r, 0, none⟩) (k + 1) (k + 1)) n1 (D.take k ++ b'.val :: R) := by
    refine ⟨HB3.out.far (p := ⟨r, k, none⟩) (fun e => hrg e.symm) _, ?_, fun x hx => ?_⟩
    · have e3 : (D.take k ++ b'.val :: R).length = (k + 1) := by rw [List.length_append, List.length_cons, HPL.out, HRLEN.out]; omega
      rw [e3]; exact HSET.out b'.val
    · rcases List.mem_append.1 hx with hx | hx
      · exact HLT.out x hx
      · rcases List.mem_cons.1 hx with rfl | hx
        · exact b'.isLt
        · exact HRLT.out x hx
  have hcg : Chg (fun i => i = g ∨ (Value.slice (some ⟨r, 0, none⟩) (k + 1) (k + 1)).ownBlock = some i) w9 (w3.setCell ⟨r, k, none⟩ (.int .u8 ((b'.val : Nat) : Int))) :=
    (((Chg.refl (fun i => i = g ∨ (Value.slice (some ⟨r, 0, none⟩) (k + 1) (k + 1)).ownBlock = some i) w9).setCell (p := ⟨g, 1, none⟩) (fun _ => Or.inl rfl) _).trans HC3.out (fun i _ (e : i = r) => Or.inr (congrArg some e.symm))).setCell (p := ⟨r, k, none⟩) (fun _ => Or.inr rfl) _
  generalize w3.setCell ⟨r, k, none⟩ (.int .u8 ((b'.val : Nat) : Int)) = W4 at *
  have hbl := bv_blen B g _ n1 _ W4 hbv (by omega)
  rw [← HQD.out] at hbl
  obtain ⟨x0, x1, y0, y1⟩ := blk_two hbv.blk
  have HBV := hide hbv
  have HCG := hide hcg
  refine hbl.mono ?_
  clear hbl hbv hcg
  rintro e w5 ⟨rfl, rfl⟩
  go_wp2
  go_end0
  have e3 : (D.take k ++ b'.val :: R).length = (k + 1) := by rw [List.length_append, List.length_cons, HPL.out, HRLEN.out]; omega
  refine ⟨rfl, ⟨.slice (some ⟨r, 0, none⟩) q (k + 1), (D.take k ++ b'.val :: R).take q, ⟨HBV.out.blk.set_ 0 _, ?_, fun x hx => HBV.out.lt x (List.mem_of_mem_take hx)⟩, fun i hi => Or.inl hi, ⟨b'.val, ?_, by rw [← HRD.out]⟩⟩, ?_⟩
  · have h1 := HBV.out.row
    rw [e3] at h1
    have e4 : ((D.take k ++ b'.val :: R).take q).length = q := by rw [List.length_take, e3]; omega
    rw [e4]
    have h2 := own_take h1 (q := q) (by omega)
    have e5 : bytes ((D.take k ++ b'.val :: R).take q) = (bytes (D.take k ++ b'.val :: R)).take q := List.map_take
    rw [e5]
    exact ownsRow_setCell_other h2 (by simp [Value.ownBlock]; exact hrg) _
  · rw [HB2.out]; show _ = _ ++ [((shL 0 (D.drop (k + 1))).2 : Int)]; rw [← HCD.out]
  · exact HCG.out.setCell (p := ⟨g, 0, none⟩) (fun _ => Or.inl rfl) _

end
end Go.Proofs.Ytammpllfmbmdmaa
