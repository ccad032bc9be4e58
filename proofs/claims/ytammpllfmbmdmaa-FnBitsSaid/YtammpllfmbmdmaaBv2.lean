/- The walks of BitVector's Append, Insert, Delete. Printed by gen_bv.py. -/
import Derived.Test.YtammpllfmbmdmaaBv
import Derived.BigQuiet
import Derived.Deep.QuietTactic
namespace Go.Proofs.Ytammpllfmbmdmaa
open Go.RowKit

theorem BV.setN {B g : Nat} {v : Value} {n : Nat} {D : List Nat} {w : World} (h : BV w B g v n D) (n' : Nat) : BV (w.setCell ⟨g, 1, none⟩ (.int .i64 n')) B g v n' D := by
  refine ⟨h.blk.set_ 1 _, ownsRow_setCell_other h.row ?_ _, h.lt⟩
  intro e
  obtain ⟨cs, hcs⟩ := own_blk h.row e
  exact hcs.ne_ h.blk (by decide) rfl

/-- What a method that changes the vector leaves. -/
structure BVTo (B g : Nat) (v : Value) (n' : Nat) (Q : List Nat → Prop) (w w' : World) : Prop where
  bv : ∃ v' D', BV w' B g v' n' D' ∧ (∀ i, v'.ownBlock = some i → v.ownBlock = some i ∨ w.heap.size ≤ i) ∧ Q D'
  chg : Chg (fun i => i = g ∨ v.ownBlock = some i) w w'

section
variable (B g : Nat) (v : Value) (n : Nat) (D : List Nat) (w : World)

set_option maxHeartbeats 1000000 in
set_option maxRecDepth 100000 in
theorem bv_append_r1 (k o : Nat) (hko : n = 8 * k + o) (ho : o < 8) (h : BV w B g v n D) (hn : n ≤ 100000) (_hB : B ≤ w.heap.size) (hD : k < D.length) (hg : ¬ D.length < (n + 1 + 7) / 8) (hd : D.length ≤ 100000) :
    Calls Try.prog 52 #[.pointer (some ⟨g, 0, none⟩), .int .u8 1] w fun e w' => e = .returned (.tuple #[]) ∧ BVTo B g v (n + 1) (fun D' => ∃ b', bitsB b' = (bitsB (D.getD k 0)).set o 1 ∧ D' = D.set k b') w w' := by
  obtain ⟨c0, c1, f0, f1⟩ := blk_two h.blk
  have hc : ∀ q, Calls Try.prog 90 #[.pointer (some ⟨g, 0, none⟩)] ((w.setCell ⟨g, 1, none⟩ (.int .i64 ((n : Int) + 1))).drewN q) fun e w' => e = .returned (.int .i64 (((n + 1 + 7) / 8 : Nat) : Int)) ∧ w' = (w.setCell ⟨g, 1, none⟩ (.int .i64 ((n : Int) + 1))).drewN q := fun q => bv_blen B g v (n + 1) D _ (by
    have h1 := h.setN (n + 1)
    exact ⟨h1.blk, h1.row, h1.lt⟩) (by omega)
  obtain ⟨r, cap, rfl, hcap1, hcap2, hrg, hx, hfx, hlt⟩ := h.at_ k hD
  have hq : (n : Int) / 8 = k := by omega
  have hr : (n : Int) % 8 = o := by omega
  have hk2 : k ≤ 100000 := by omega
  obtain ⟨b', hb1, hb2⟩ := byte_set1 ⟨D.getD k 0, hlt⟩ ⟨o, ho⟩
  have HB1 := hide hb1
  have HB2 := hide hb2
  have H := hide h
  clear hb1 hb2 h
  generalize hgb : D.getD k 0 = b at *
  have HGB := hide hgb
  clear hgb
  generalize hgm : D.length = m at *
  have HGM := hide hgm
  clear hgm
  obtain ⟨q, hqd⟩ : ∃ q, q = (n + 1 + 7) / 8 := ⟨_, rfl⟩
  rw [← hqd] at hc hg
  have hq9 : q ≤ 100000 := by omega
  clear hqd hko

  have HC := hide hc
  clear hc
  go_enter Try.func52, Try.ntmps52
  go_wp2
  go_quiet ((go_at_call 90; exact Calls.quiet_of_same (HC.out _)))
  go_wp2
  go_end0
  have e1 := HB1.out
  have hbv : BV ((w.setCell ⟨g, 1, none⟩ (.int .i64 ((n : Int) + 1))).drewN nq) B g (.slice (some ⟨r, 0, none⟩) m cap) (n + 1) D := by
    have h1 := H.out.setN (n + 1)
    exact ⟨h1.blk, h1.row, h1.lt⟩
  refine ⟨rfl, ⟨.slice (some ⟨r, 0, none⟩) m cap, _, ?_, fun i hi => Or.inl hi, ⟨b'.val, HB2.out, rfl⟩⟩, ?_⟩
  · rw [e1]
    exact BV.store hbv HGM.out.symm k b'.val b'.isLt hrg
  · exact (((Chg.refl _ w).setCell (p := ⟨g, 1, none⟩) (fun _ => Or.inl rfl) _).drewN nq).setCell (p := ⟨r, k, none⟩) (fun _ => Or.inr rfl) _

set_option maxHeartbeats 1000000 in
set_option maxRecDepth 100000 in
theorem bv_append_g1 (k o : Nat) (hko : n = 8 * k + o) (ho : o < 8) (h : BV w B g v n D) (hn : n ≤ 100000) (hB : B ≤ w.heap.size) (hD : k < (D ++ [0]).length) (hg : D.length < (n + 1 + 7) / 8) (hd : D.length ≤ 100000) :
    Calls Try.prog 52 #[.pointer (some ⟨g, 0, none⟩), .int .u8 1] w fun e w' => e = .returned (.tuple #[]) ∧ BVTo B g v (n + 1) (fun D' => ∃ b', bitsB b' = (bitsB ((D ++ [0]).getD k 0)).set o 1 ∧ D' = (D ++ [0]).set k b') w w' := by
  obtain ⟨c0, c1, f0, f1⟩ := blk_two h.blk
  have hc : ∀ q, Calls Try.prog 90 #[.pointer (some ⟨g, 0, none⟩)] ((w.setCell ⟨g, 1, none⟩ (.int .i64 ((n : Int) + 1))).drewN q) fun e w' => e = .returned (.int .i64 (((n + 1 + 7) / 8 : Nat) : Int)) ∧ w' = (w.setCell ⟨g, 1, none⟩ (.int .i64 ((n : Int) + 1))).drewN q := fun q => bv_blen B g v (n + 1) D _ (by
    have h1 := h.setN (n + 1)
    exact ⟨h1.blk, h1.row, h1.lt⟩) (by omega)
  obtain ⟨i0, hi5, hz0, hz1, hz2⟩ := info_parts info5
  have hlt : (D ++ [0]).getD k 0 < 256 := by
    rw [List.getD_eq_getElem?_getD, List.getElem?_eq_getElem hD, Option.getD_some]
    rcases List.mem_append.1 (List.getElem_mem hD) with h1 | h1
    · exact h.lt _ h1
    · rw [List.mem_singleton.1 h1]; omega
  have hvg : v.ownBlock ≠ some g := fun e => by
    obtain ⟨cs, hcs⟩ := own_blk h.row e
    exact hcs.ne_ h.blk (by decide) rfl
  obtain ⟨A, cap, rfl, _⟩ := own_reads h.row
  have HVG := hide hvg
  have hown := (h.setN (n + 1)).row
  have c00 : (w.setCell ⟨g, 1, none⟩ (.int .i64 ((n : Int) + 1))).cell? ⟨g, 0, none⟩ = some (.slice A D.length cap) := (h.setN (n + 1)).blk.cell 0
  have f00 : (w.setCell ⟨g, 1, none⟩ (.int .i64 ((n : Int) + 1))).frozen? ⟨g, 0, none⟩ = false := (h.setN (n + 1)).blk.frozen 0
  have HC00 := hide c00
  have HF00 := hide f00
  have hgl := h.blk.lt
  clear hvg c00 f00
  have hq : (n : Int) / 8 = k := by omega
  have hr : (n : Int) % 8 = o := by omega
  have hk2 : k ≤ 100000 := by omega
  obtain ⟨b', hb1, hb2⟩ := byte_set1 ⟨(D ++ [0]).getD k 0, hlt⟩ ⟨o, ho⟩
  have HB1 := hide hb1
  have HB2 := hide hb2
  have H := hide h
  clear hb1 hb2 h
  have hE : Hid (∀ j, j < (D ++ [0]).length → (bytes (D ++ [0]))[j]? = some (.int .u8 (((D ++ [0]).getD j 0 : Nat) : Int))) := fun j hj => by
    rw [List.getElem?_map, List.getElem?_eq_getElem hj, List.getD_eq_getElem?_getD, List.getElem?_eq_getElem hj]; rfl
  have HD := hide hD
  generalize hgb : (D ++ [0]).getD k 0 = b at *
  have HGB := hide hgb
  clear hgb
  generalize hgm : D.length = m at *
  have HGM := hide hgm
  clear hgm
  obtain ⟨q, hqd⟩ : ∃ q, q = (n + 1 + 7) / 8 := ⟨_, rfl⟩
  rw [← hqd] at hc hg
  have hq9 : q ≤ 100000 := by omega
  clear hqd hko
  rw [show ((n + 1 : Nat) : Int) = (n : Int) + 1 from rfl] at hown
  have HC := hide hc
  clear hc
  go_enter Try.func52, Try.ntmps52
  go_wp2
  go_quiet ((go_at_call 90; exact Calls.quiet_of_same (HC.out _)))
  go_wp2_with
    (at_builtin
     go_must (refine wpList_append1 rfl _ _ 43 rfl B 5 i0 (.int .u8 0) 1 Try.underlying43 hi5 hz0 hz1 hz2 rfl (.slice A m cap) m (bytes D) rfl (World.ownsRow.alloc (own_chg hown ((Chg.refl (fun _ => False) _).drewN _) (fun _ _ h => h)) _) _ 1 (.int .u8 0) rfl ((Blk.new_ (n := w.heap.size) _ 5 #[.int .u8 0] (by simp [World.setCell])).cell 0) rfl (by unfold maxLen; omega) (by omega) (by simp [World.setCell]; omega) ?_)
     intro g1 cp w1 hO _ hG hat hg1
     have hcp := own_cap hO
     unfold maxLen at hcp
     obtain ⟨hcp1, hcp2⟩ := hcp
     have hg1g : g1 ≠ g := (by
       rcases hat with h | h
       · exact fun e => HVG.out (by rw [h, e])
       · intro e
         simp [World.setCell] at h
         omega)
     have hx0 : w1.cell? ⟨g, 0, none⟩ = some (.slice A m cap) := ((hG.cell_far _ (by simp [World.setCell]; omega) (fun e => HVG.out e.symm)).trans (by rw [World.cell?_alloc_lt _ _ _ (by simp [World.setCell]; exact hgl)]; simpa using HC00.out))
     have hf0 : w1.frozen? ⟨g, 0, none⟩ = false := ((hG.frozen_far _ (by simp [World.setCell]; omega) (fun e => HVG.out e.symm)).trans (by rw [World.frozen?_alloc_old _ _ _ (by simp [World.setCell]; omega)]; simpa using HF00.out))
     have hx1 : w1.cell? ⟨g1, k, none⟩ = some (.int .u8 (b : Int)) := (by
       rw [hO.cellAt k (by have h1 := HD.out; have h2 := HGM.out; simp at h1; omega)]
       have h3 := hE.out k HD.out
       rw [HGB.out] at h3
       rw [← h3]; simp)
     have hf1' := hO.frozenAt k
     have hkm : k < m + 1 := (by have h1 := HD.out; have h2 := HGM.out; simp at h1; omega)
     have HO := hide hO
     have HG := hide hG
     have HAT := hide hat
     clear hO hG hat)
  go_end0
  refine ⟨rfl, ?_⟩
  have hX : Chg (fun i => i = g ∨ (Value.slice A m cap).ownBlock = some i) w ((w.setCell ⟨g, 1, none⟩ (.int .i64 ((n : Int) + 1))).drewN nq) := ((Chg.refl _ w).setCell (p := ⟨g, 1, none⟩) (fun _ => Or.inl rfl) _).drewN nq
  have hc1 : Chg (fun i => i = g ∨ (Value.slice A m cap).ownBlock = some i) w w1 := (hX.alloc _).trans (Chg.ofGrown (S := fun k => (Value.slice A m cap).ownBlock = some k) HG.out (fun g hg _ => hg)) (fun i _ h => Or.inr h)
  have hb1 : Blk w1 g 121 #[.slice A m cap, .int .i64 ((n : Int) + 1)] := by
    have h1 := (H.out.setN (n + 1)).blk
    exact (HG.out.block g (by simp [World.setCell]; omega) (fun e => HVG.out e.symm)).trans ((Blk.drewN h1 nq).alloc _)
  have hbv : BV (w1.setCell ⟨g, 0, none⟩ (.slice (some ⟨g1, 0, none⟩) (m + 1) cp)) B g (.slice (some ⟨g1, 0, none⟩) (m + 1) cp) (n + 1) (D ++ [0]) := by
    refine ⟨hb1.set_ 0 _, ?_, fun x hx => ?_⟩
    · have h1 := ownsRow_setCell_other HO.out (a := ⟨g, 0, none⟩) (by simp [Value.ownBlock]; exact hg1g) (.slice (some ⟨g1, 0, none⟩) (m + 1) cp)
      have e1 : (D ++ [0]).length = m + 1 := by rw [List.length_append, HGM.out]; rfl
      have e2 : bytes (D ++ [0]) = bytes D ++ [.int .u8 0] := List.map_append
      rw [e1, e2]; exact h1
    · rcases List.mem_append.1 hx with hx | hx
      · exact H.out.lt x hx
      · rw [List.mem_singleton.1 hx]; omega
  have e1 := HB1.out
  refine ⟨⟨.slice (some ⟨g1, 0, none⟩) (m + 1) cp, _, ?_, fun i hi => ?_, ⟨b'.val, HB2.out, rfl⟩⟩, ?_⟩
  · rw [e1]
    exact BV.store hbv (by rw [List.length_append, HGM.out]; rfl) k b'.val b'.isLt hg1g
  · rcases HAT.out with h | h
    · exact Or.inl (by rw [h]; exact hi)
    · simp [World.setCell] at h
      simp [Value.ownBlock] at hi
      exact Or.inr (by omega)
  · refine (hc1.setCell (p := ⟨g, 0, none⟩) (fun _ => Or.inl rfl) _).setCell (p := ⟨g1, k, none⟩) (fun hlt => ?_) _
    rcases HAT.out with h | h
    · exact Or.inr h
    · simp [World.setCell] at h
      simp at hlt
      omega

set_option maxHeartbeats 1000000 in
set_option maxRecDepth 100000 in
theorem bv_append_r0 (k o : Nat) (hko : n = 8 * k + o) (ho : o < 8) (h : BV w B g v n D) (hn : n ≤ 100000) (_hB : B ≤ w.heap.size) (hD : k < D.length) (hg : ¬ D.length < (n + 1 + 7) / 8) (hd : D.length ≤ 100000) :
    Calls Try.prog 52 #[.pointer (some ⟨g, 0, none⟩), .int .u8 0] w fun e w' => e = .returned (.tuple #[]) ∧ BVTo B g v (n + 1) (fun D' => ∃ b', bitsB b' = (bitsB (D.getD k 0)).set o 0 ∧ D' = D.set k b') w w' := by
  obtain ⟨c0, c1, f0, f1⟩ := blk_two h.blk
  have hc : ∀ q, Calls Try.prog 90 #[.pointer (some ⟨g, 0, none⟩)] ((w.setCell ⟨g, 1, none⟩ (.int .i64 ((n : Int) + 1))).drewN q) fun e w' => e = .returned (.int .i64 (((n + 1 + 7) / 8 : Nat) : Int)) ∧ w' = (w.setCell ⟨g, 1, none⟩ (.int .i64 ((n : Int) + 1))).drewN q := fun q => bv_blen B g v (n + 1) D _ (by
    have h1 := h.setN (n + 1)
    exact ⟨h1.blk, h1.row, h1.lt⟩) (by omega)
  obtain ⟨r, cap, rfl, hcap1, hcap2, hrg, hx, hfx, hlt⟩ := h.at_ k hD
  have hq : (n : Int) / 8 = k := by omega
  have hr : (n : Int) % 8 = o := by omega
  have hk2 : k ≤ 100000 := by omega
  obtain ⟨b', hb1, hb2⟩ := byte_set0 ⟨D.getD k 0, hlt⟩ ⟨o, ho⟩
  have HB1 := hide hb1
  have HB2 := hide hb2
  have H := hide h
  clear hb1 hb2 h
  generalize hgb : D.getD k 0 = b at *
  have HGB := hide hgb
  clear hgb
  generalize hgm : D.length = m at *
  have HGM := hide hgm
  clear hgm
  obtain ⟨q, hqd⟩ : ∃ q, q = (n + 1 + 7) / 8 := ⟨_, rfl⟩
  rw [← hqd] at hc hg
  have hq9 : q ≤ 100000 := by omega
  clear hqd hko

  have HC := hide hc
  clear hc
  go_enter Try.func52, Try.ntmps52
  go_wp2
  go_quiet ((go_at_call 90; exact Calls.quiet_of_same (HC.out _)))
  go_wp2
  go_end0
  have e1 := HB1.out
  have hbv : BV ((w.setCell ⟨g, 1, none⟩ (.int .i64 ((n : Int) + 1))).drewN nq) B g (.slice (some ⟨r, 0, none⟩) m cap) (n + 1) D := by
    have h1 := H.out.setN (n + 1)
    exact ⟨h1.blk, h1.row, h1.lt⟩
  refine ⟨rfl, ⟨.slice (some ⟨r, 0, none⟩) m cap, _, ?_, fun i hi => Or.inl hi, ⟨b'.val, HB2.out, rfl⟩⟩, ?_⟩
  · rw [e1]
    exact BV.store hbv HGM.out.symm k b'.val b'.isLt hrg
  · exact (((Chg.refl _ w).setCell (p := ⟨g, 1, none⟩) (fun _ => Or.inl rfl) _).drewN nq).setCell (p := ⟨r, k, none⟩) (fun _ => Or.inr rfl) _

set_option maxHeartbeats 1000000 in
set_option maxRecDepth 100000 in
theorem bv_append_g0 (k o : Nat) (hko : n = 8 * k + o) (ho : o < 8) (h : BV w B g v n D) (hn : n ≤ 100000) (hB : B ≤ w.heap.size) (hD : k < (D ++ [0]).length) (hg : D.length < (n + 1 + 7) / 8) (hd : D.length ≤ 100000) :
    Calls Try.prog 52 #[.pointer (some ⟨g, 0, none⟩), .int .u8 0] w fun e w' => e = .returned (.tuple #[]) ∧ BVTo B g v (n + 1) (fun D' => ∃ b', bitsB b' = (bitsB ((D ++ [0]).getD k 0)).set o 0 ∧ D' = (D ++ [0]).set k b') w w' := by
  obtain ⟨c0, c1, f0, f1⟩ := blk_two h.blk
  have hc : ∀ q, Calls Try.prog 90 #[.pointer (some ⟨g, 0, none⟩)] ((w.setCell ⟨g, 1, none⟩ (.int .i64 ((n : Int) + 1))).drewN q) fun e w' => e = .returned (.int .i64 (((n + 1 + 7) / 8 : Nat) : Int)) ∧ w' = (w.setCell ⟨g, 1, none⟩ (.int .i64 ((n : Int) + 1))).drewN q := fun q => bv_blen B g v (n + 1) D _ (by
    have h1 := h.setN (n + 1)
    exact ⟨h1.blk, h1.row, h1.lt⟩) (by omega)
  obtain ⟨i0, hi5, hz0, hz1, hz2⟩ := info_parts info5
  have hlt : (D ++ [0]).getD k 0 < 256 := by
    rw [List.getD_eq_getElem?_getD, List.getElem?_eq_getElem hD, Option.getD_some]
    rcases List.mem_append.1 (List.getElem_mem hD) with h1 | h1
    · exact h.lt _ h1
    · rw [List.mem_singleton.1 h1]; omega
  have hvg : v.ownBlock ≠ some g := fun e => by
    obtain ⟨cs, hcs⟩ := own_blk h.row e
    exact hcs.ne_ h.blk (by decide) rfl
  obtain ⟨A, cap, rfl, _⟩ := own_reads h.row
  have HVG := hide hvg
  have hown := (h.setN (n + 1)).row
  have c00 : (w.setCell ⟨g, 1, none⟩ (.int .i64 ((n : Int) + 1))).cell? ⟨g, 0, none⟩ = some (.slice A D.length cap) := (h.setN (n + 1)).blk.cell 0
  have f00 : (w.setCell ⟨g, 1, none⟩ (.int .i64 ((n : Int) + 1))).frozen? ⟨g, 0, none⟩ = false := (h.setN (n + 1)).blk.frozen 0
  have HC00 := hide c00
  have HF00 := hide f00
  have hgl := h.blk.lt
  clear hvg c00 f00
  have hq : (n : Int) / 8 = k := by omega
  have hr : (n : Int) % 8 = o := by omega
  have hk2 : k ≤ 100000 := by omega
  obtain ⟨b', hb1, hb2⟩ := byte_set0 ⟨(D ++ [0]).getD k 0, hlt⟩ ⟨o, ho⟩
  have HB1 := hide hb1
  have HB2 := hide hb2
  have H := hide h
  clear hb1 hb2 h
  have hE : Hid (∀ j, j < (D ++ [0]).length → (bytes (D ++ [0]))[j]? = some (.int .u8 (((D ++ [0]).getD j 0 : Nat) : Int))) := fun j hj => by
    rw [List.getElem?_map, List.getElem?_eq_getElem hj, List.getD_eq_getElem?_getD, List.getElem?_eq_getElem hj]; rfl
  have HD := hide hD
  generalize hgb : (D ++ [0]).getD k 0 = b at *
  have HGB := hide hgb
  clear hgb
  generalize hgm : D.length = m at *
  have HGM := hide hgm
  clear hgm
  obtain ⟨q, hqd⟩ : ∃ q, q = (n + 1 + 7) / 8 := ⟨_, rfl⟩
  rw [← hqd] at hc hg
  have hq9 : q ≤ 100000 := by omega
  clear hqd hko
  rw [show ((n + 1 : Nat) : Int) = (n : Int) + 1 from rfl] at hown
  have HC := hide hc
  clear hc
  go_enter Try.func52, Try.ntmps52
  go_wp2
  go_quiet ((go_at_call 90; exact Calls.quiet_of_same (HC.out _)))
  go_wp2_with
    (at_builtin
     go_must (refine wpList_append1 rfl _ _ 43 rfl B 5 i0 (.int .u8 0) 1 Try.underlying43 hi5 hz0 hz1 hz2 rfl (.slice A m cap) m (bytes D) rfl (World.ownsRow.alloc (own_chg hown ((Chg.refl (fun _ => False) _).drewN _) (fun _ _ h => h)) _) _ 1 (.int .u8 0) rfl ((Blk.new_ (n := w.heap.size) _ 5 #[.int .u8 0] (by simp [World.setCell])).cell 0) rfl (by unfold maxLen; omega) (by omega) (by simp [World.setCell]; omega) ?_)
     intro g1 cp w1 hO _ hG hat hg1
     have hcp := own_cap hO
     unfold maxLen at hcp
     obtain ⟨hcp1, hcp2⟩ := hcp
     have hg1g : g1 ≠ g := (by
       rcases hat with h | h
       · exact fun e => HVG.out (by rw [h, e])
       · intro e
         simp [World.setCell] at h
         omega)
     have hx0 : w1.cell? ⟨g, 0, none⟩ = some (.slice A m cap) := ((hG.cell_far _ (by simp [World.setCell]; omega) (fun e => HVG.out e.symm)).trans (by rw [World.cell?_alloc_lt _ _ _ (by simp [World.setCell]; exact hgl)]; simpa using HC00.out))
     have hf0 : w1.frozen? ⟨g, 0, none⟩ = false := ((hG.frozen_far _ (by simp [World.setCell]; omega) (fun e => HVG.out e.symm)).trans (by rw [World.frozen?_alloc_old _ _ _ (by simp [World.setCell]; omega)]; simpa using HF00.out))
     have hx1 : w1.cell? ⟨g1, k, none⟩ = some (.int .u8 (b : Int)) := (by
       rw [hO.cellAt k (by have h1 := HD.out; have h2 := HGM.out; simp at h1; omega)]
       have h3 := hE.out k HD.out
       rw [HGB.out] at h3
       rw [← h3]; simp)
     have hf1' := hO.frozenAt k
     have hkm : k < m + 1 := (by have h1 := HD.out; have h2 := HGM.out; simp at h1; omega)
     have HO := hide hO
     have HG := hide hG
     have HAT := hide hat
     clear hO hG hat)
  go_end0
  refine ⟨rfl, ?_⟩
  have hX : Chg (fun i => i = g ∨ (Value.slice A m cap).ownBlock = some i) w ((w.setCell ⟨g, 1, none⟩ (.int .i64 ((n : Int) + 1))).drewN nq) := ((Chg.refl _ w).setCell (p := ⟨g, 1, none⟩) (fun _ => Or.inl rfl) _).drewN nq
  have hc1 : Chg (fun i => i = g ∨ (Value.slice A m cap).ownBlock = some i) w w1 := (hX.alloc _).trans (Chg.ofGrown (S := fun k => (Value.slice A m cap).ownBlock = some k) HG.out (fun g hg _ => hg)) (fun i _ h => Or.inr h)
  have hb1 : Blk w1 g 121 #[.slice A m cap, .int .i64 ((n : Int) + 1)] := by
    have h1 := (H.out.setN (n + 1)).blk
    exact (HG.out.block g (by simp [World.setCell]; omega) (fun e => HVG.out e.symm)).trans ((Blk.drewN h1 nq).alloc _)
  have hbv : BV (w1.setCell ⟨g, 0, none⟩ (.slice (some ⟨g1, 0, none⟩) (m + 1) cp)) B g (.slice (some ⟨g1, 0, none⟩) (m + 1) cp) (n + 1) (D ++ [0]) := by
    refine ⟨hb1.set_ 0 _, ?_, fun x hx => ?_⟩
    · have h1 := ownsRow_setCell_other HO.out (a := ⟨g, 0, none⟩) (by simp [Value.ownBlock]; exact hg1g) (.slice (some ⟨g1, 0, none⟩) (m + 1) cp)
      have e1 : (D ++ [0]).length = m + 1 := by rw [List.length_append, HGM.out]; rfl
      have e2 : bytes (D ++ [0]) = bytes D ++ [.int .u8 0] := List.map_append
      rw [e1, e2]; exact h1
    · rcases List.mem_append.1 hx with hx | hx
      · exact H.out.lt x hx
      · rw [List.mem_singleton.1 hx]; omega
  have e1 := HB1.out
  refine ⟨⟨.slice (some ⟨g1, 0, none⟩) (m + 1) cp, _, ?_, fun i hi => ?_, ⟨b'.val, HB2.out, rfl⟩⟩, ?_⟩
  · rw [e1]
    exact BV.store hbv (by rw [List.length_append, HGM.out]; rfl) k b'.val b'.isLt hg1g
  · rcases HAT.out with h | h
    · exact Or.inl (by rw [h]; exact hi)
    · simp [World.setCell] at h
      simp [Value.ownBlock] at hi
      exact Or.inr (by omega)
  · refine (hc1.setCell (p := ⟨g, 0, none⟩) (fun _ => Or.inl rfl) _).setCell (p := ⟨g1, k, none⟩) (fun hlt => ?_) _
    rcases HAT.out with h | h
    · exact Or.inr h
    · simp [World.setCell] at h
      simp at hlt
      omega

end
end Go.Proofs.Ytammpllfmbmdmaa
