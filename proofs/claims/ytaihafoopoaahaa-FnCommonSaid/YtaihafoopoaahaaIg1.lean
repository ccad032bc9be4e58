/- The walk of initGroups. Under sizes alone. -/
import Derived.Test.YtaihafoopoaahaaRl
import Derived.Test.YtaihafoopoaahaaIg0
import Derived.Test.YtaihafoopoaahaaSb1
import Derived.Sort.BigQuietIn
import Derived.Deep.RegionHeld3
namespace Go.Proofs.Ytaihafoopoaahaa
open Go.RowKit Go.Shelf
attribute [local go_sem] Oper.semAt_some

/-- The memory of initGroups: the six boxes, the numbers, the row. -/
structure Im (w : World) (g : Nat) (A : Option Addr) (n c b0 b1 b2 b3 b4 b5 b6 : Nat) (S I : Nat → Int) (e b : Int) (W : World) : Prop where
  bsa : Blk W b0 23 #[.slice (some ⟨g, 0, none⟩) n n]
  bda : Blk W b1 22 #[.slice A n c]
  inv : Blk W b2 3 (arr n I)
  bin : Blk W b3 23 #[.slice (some ⟨b2, 0, none⟩) n n]
  bpr : Blk W b4 3 #[.int .i64 e]
  bby : Blk W b5 5 #[.int .u8 b]
  bbk : Blk W b6 23 #[.slice (some ⟨g, 0, none⟩) n n]
  sa : Blk W g 3 (arr n S)
  chg : Chg (fun i => i = g) w W

/-- The blocks' numbers. -/
structure Nm (w : World) (g b0 b1 b2 b3 b4 b5 b6 : Nat) : Prop where
  hg : g < w.heap.size
  h0 : b0 = w.heap.size
  h1 : b1 = b0 + 1
  h2 : b2 = b1 + 1
  h3 : b3 = b2 + 1
  h4 : b4 = b3 + 1
  h5 : b5 = b4 + 1
  h6 : b6 = b5 + 1

section
variable {w : World} {g : Nat} {A : Option Addr} {n c b0 b1 b2 b3 b4 b5 b6 : Nat} {S I : Nat → Int} {e b : Int} {W W' : World}
theorem Im.kept {T : Nat → Prop} (k : Im w g A n c b0 b1 b2 b3 b4 b5 b6 S I e b W) (N : Nm w g b0 b1 b2 b3 b4 b5 b6) (hc : Chg T W W') (hT : ∀ i, i ≤ b6 → ¬ T i) : Im w g A n c b0 b1 b2 b3 b4 b5 b6 S I e b W' := by
  obtain ⟨hg, h0, h1, h2, h3, h4, h5, h6⟩ := N
  exact ⟨k.bsa.chg hc (hT _ (by omega)), k.bda.chg hc (hT _ (by omega)), k.inv.chg hc (hT _ (by omega)), k.bin.chg hc (hT _ (by omega)), k.bpr.chg hc (hT _ (by omega)), k.bby.chg hc (hT _ (by omega)), k.bbk.chg hc (hT _ (by omega)), k.sa.chg hc (hT _ (by omega)),
    k.chg.trans hc (fun i hi ht => absurd ht (hT i (by omega)))⟩
theorem Im.setS (k : Im w g A n c b0 b1 b2 b3 b4 b5 b6 S I e b W) (N : Nm w g b0 b1 b2 b3 b4 b5 b6) (i : Nat) (v : Int) : Im w g A n c b0 b1 b2 b3 b4 b5 b6 (upd S i v) I e b (W.setCell ⟨g, i, none⟩ (.int .i64 v)) := by
  obtain ⟨hg, h0, h1, h2, h3, h4, h5, h6⟩ := N
  exact ⟨k.bsa.far (by simp; omega) _, k.bda.far (by simp; omega) _, k.inv.far (by simp; omega) _, k.bin.far (by simp; omega) _, k.bpr.far (by simp; omega) _, k.bby.far (by simp; omega) _, k.bbk.far (by simp; omega) _, k.sa.iset i v, k.chg.setCell (p := ⟨g, i, none⟩) (fun _ => rfl) _⟩
theorem Im.setI (k : Im w g A n c b0 b1 b2 b3 b4 b5 b6 S I e b W) (N : Nm w g b0 b1 b2 b3 b4 b5 b6) (i : Nat) (v : Int) : Im w g A n c b0 b1 b2 b3 b4 b5 b6 S (upd I i v) e b (W.setCell ⟨b2, i, none⟩ (.int .i64 v)) := by
  obtain ⟨hg, h0, h1, h2, h3, h4, h5, h6⟩ := N
  exact ⟨k.bsa.far (by simp; omega) _, k.bda.far (by simp; omega) _, k.inv.iset i v, k.bin.far (by simp; omega) _, k.bpr.far (by simp; omega) _, k.bby.far (by simp; omega) _, k.bbk.far (by simp; omega) _, k.sa.far (by simp; omega) _, k.chg.setCell (p := ⟨b2, i, none⟩) (fun h => by simp at h; omega) _⟩
theorem Im.setE (k : Im w g A n c b0 b1 b2 b3 b4 b5 b6 S I e b W) (N : Nm w g b0 b1 b2 b3 b4 b5 b6) (v : Int) : Im w g A n c b0 b1 b2 b3 b4 b5 b6 S I v b (W.setCell ⟨b4, 0, none⟩ (.int .i64 v)) := by
  obtain ⟨hg, h0, h1, h2, h3, h4, h5, h6⟩ := N
  refine ⟨k.bsa.far (by simp; omega) _, k.bda.far (by simp; omega) _, k.inv.far (by simp; omega) _, k.bin.far (by simp; omega) _, ?_, k.bby.far (by simp; omega) _, k.bbk.far (by simp; omega) _, k.sa.far (by simp; omega) _, k.chg.setCell (p := ⟨b4, 0, none⟩) (fun h => by simp at h; omega) _⟩
  simpa using k.bpr.set_ 0 (.int .i64 v)
theorem Im.setY (k : Im w g A n c b0 b1 b2 b3 b4 b5 b6 S I e b W) (N : Nm w g b0 b1 b2 b3 b4 b5 b6) (v : Int) : Im w g A n c b0 b1 b2 b3 b4 b5 b6 S I e v (W.setCell ⟨b5, 0, none⟩ (.int .u8 v)) := by
  obtain ⟨hg, h0, h1, h2, h3, h4, h5, h6⟩ := N
  refine ⟨k.bsa.far (by simp; omega) _, k.bda.far (by simp; omega) _, k.inv.far (by simp; omega) _, k.bin.far (by simp; omega) _, k.bpr.far (by simp; omega) _, ?_, k.bbk.far (by simp; omega) _, k.sa.far (by simp; omega) _, k.chg.setCell (p := ⟨b5, 0, none⟩) (fun h => by simp at h; omega) _⟩
  simpa using k.bby.set_ 0 (.int .u8 v)
theorem Im.drew (k : Im w g A n c b0 b1 b2 b3 b4 b5 b6 S I e b W) : Im w g A n c b0 b1 b2 b3 b4 b5 b6 S I e b W.drew := ⟨k.bsa.drew, k.bda.drew, k.inv.drew, k.bin.drew, k.bpr.drew, k.bby.drew, k.bbk.drew, k.sa.drew, k.chg.drew⟩
theorem Im.drewN (k : Im w g A n c b0 b1 b2 b3 b4 b5 b6 S I e b W) (q : Nat) : Im w g A n c b0 b1 b2 b3 b4 b5 b6 S I e b (W.drewN q) := ⟨k.bsa.drewN q, k.bda.drewN q, k.inv.drewN q, k.bin.drewN q, k.bpr.drewN q, k.bby.drewN q, k.bbk.drewN q, k.sa.drewN q, k.chg.drewN q⟩
end

theorem upd_upd (S : Nat → Int) (i : Nat) (u v : Int) : upd (upd S i u) i v = upd S i v := by
  funext k
  unfold upd
  by_cases h : k = i
  · rw [if_pos h, if_pos h]
  · rw [if_neg h, if_neg h, if_neg h]

/-- What the search for the last suffix has seen: it stands not below i; sv is the first unmarked place of its byte, or -1. -/
def Fst (s : List UInt8) (m : Nat) (S : Nat → Int) (p : Nat → Nat) (lb i : Nat) (sv : Int) : Prop :=
  (∀ j, j < i → S j ≠ m) ∧ ((sv = -1 ∧ ∀ j, j < i → 0 ≤ S j → byt s p j ≠ lb) ∨ ∃ a : Nat, sv = a ∧ a < i ∧ 0 ≤ S a ∧ byt s p a = lb ∧ ∀ j, j < a → 0 ≤ S j → byt s p j ≠ lb)

theorem Fst.skip {s : List UInt8} {m : Nat} {S : Nat → Int} {p : Nat → Nat} {lb i : Nat} {sv : Int} (h : Fst s m S p lb i sv) (hi : S i < 0 ∨ (S i ≠ m ∧ byt s p i ≠ lb)) : Fst s m S p lb (i + 1) sv := by
  refine ⟨fun j hj => ?_, ?_⟩
  · by_cases e : j = i
    · subst e; omega
    · exact h.1 j (by omega)
  · rcases h.2 with ⟨h1, h2⟩ | ⟨a, h1, h2, h3⟩
    · refine Or.inl ⟨h1, fun j hj h0 => ?_⟩
      by_cases e : j = i
      · subst e
        rcases hi with h4 | h4
        · omega
        · exact h4.2
      · exact h2 j (by omega) h0
    · exact Or.inr ⟨a, h1, by omega, h3⟩

set_option linter.unusedSimpArgs false in
set_option linter.unusedVariables false in
set_option maxHeartbeats 16000000 in
set_option maxRecDepth 100000 in
theorem initGroups_any (s : List UInt8) (m : Nat) (hs : s.length = m + 1) (A : Option Addr) (c g : Nat) (p : Nat → Nat) (w : World) (h : Reads w (fun i => i < w.heap.size ∧ i ≠ g) 1 A (m + 1) (bts s)) (hn : m ≤ 100000)
    (hsa : Blk w g 3 (arr (m + 1) (fun k => (p k : Int)))) (pm : Pm (m + 1) p) (mono : ∀ j k, j ≤ k → k < m + 1 → byt s p j ≤ byt s p k) :
    Calls Try.prog 19 #[.slice (some ⟨g, 0, none⟩) (m + 1) (m + 1), .slice A (m + 1) c] w fun e w' => ∃ (S I : Nat → Int) (p' : Nat → Nat), e = .returned (.slice (some ⟨w.heap.size + 2, 0, none⟩) (m + 1) (m + 1)) ∧ Chg (fun i => i = g) w w' ∧
      Blk w' (w.heap.size + 2) 3 (arr (m + 1) I) ∧ Blk w' g 3 (arr (m + 1) S) ∧ Hd s (m + 1) S I p' 1 := by
  have hmk := fun w => make_ints (n := m + 1) (by omega) w
  rw [show ((m + 1 : Nat) : Int) = (m : Int) + 1 by omega] at hmk
  refine (callsIn_wide (n := 3)).1 ?_
  have hro : Fence.wide.round = none := rfl
  have hg := hsa.lt
  have q1 := hsa.icell (i := m) (by omega)
  have hpl := pm.lt m (by omega)
  obtain ⟨ad, u, rfl, hadl, hx, hcx⟩ := h.at_ hpl
  obtain ⟨hx1, rfl⟩ := bts_at hx
  have hb0 : s[p m].toNat = byt s p m := by unfold byt; simp [List.getD_eq_getElem?_getD, hx1]
  rw [hb0] at hcx
  have hb1 : byt s p m < 256 := by rw [← hb0]; exact s[p m].toNat_lt
  have H := hide h
  have HSA := hide hsa
  have PM := hide pm
  have HM := hide mono
  have hadl2 : ad.block < w.heap.size := hadl
  generalize hbm : byt s p m = bm at hcx hb1
  have HBM := hide hbm
  clear h hsa pm mono hx hb0 hbm hadl
  have hB5 : ∀ o1 o2 o3 o4 o5 : Obj, Below w.heap.size w (((((w.alloc o1).alloc o2).alloc o3).alloc o4).alloc o5) := fun o1 o2 o3 o4 o5 =>
    (((((Below.refl _ w).alloc (Nat.le_refl _) o1).alloc (by simp) o2).alloc (by simp; omega) o3).alloc (by simp; omega) o4).alloc (by simp; omega) o5
  have hB6 : ∀ o1 o2 o3 o4 o5 o6 : Obj, Below w.heap.size w ((((((w.alloc o1).alloc o2).alloc o3).alloc o4).alloc o5).alloc o6) := fun o1 o2 o3 o4 o5 o6 => (hB5 o1 o2 o3 o4 o5).alloc (by simp; omega) o6
  have q5 := fun o1 o2 o3 o4 o5 => (hB5 o1 o2 o3 o4 o5).cell (p := ⟨g, m, none⟩) hg |>.trans q1
  have q6 := fun o1 o2 o3 o4 o5 o6 => (hB6 o1 o2 o3 o4 o5 o6).cell (p := ⟨g, m, none⟩) hg |>.trans q1
  have r5 := fun o1 o2 o3 o4 o5 => (hB5 o1 o2 o3 o4 o5).cell (p := ad.add (p m)) (by rw [block_of_add]; exact hadl2) |>.trans hcx
  have r6 := fun o1 o2 o3 o4 o5 o6 => (hB6 o1 o2 o3 o4 o5 o6).cell (p := ad.add (p m)) (by rw [block_of_add]; exact hadl2) |>.trans hcx
  have HB6 := hide hB6
  clear hB5 hB6 q1 hcx
  refine callsIn_of_wp_marks Try.func19 rfl trivial ?_ hro
  simp only [Try.ntmps19, List.size_toArray, List.length_cons, List.length_nil, Nat.reduceAdd, Nat.reduceSub, Array.replicate_succ, Array.replicate_zero, List.push_toArray, List.append_toArray, List.nil_append, List.cons_append]
  gi_wp2
  gi_region
  gi_wp2_with fail
  refine ⟨trivial, (backward_at Fence.wide (3 - 1) trivial hro g (m + 1) (m + 1) (w.heap.size + 1 + 1 + 1 + 1 + 1 + 1) _ ?_).mono ?_⟩
  · simp [World.drew]
  rintro _ W7 ⟨rfl, hW7⟩
  have hsz7 : W7.heap.size = w.heap.size + 1 + 1 + 1 + 1 + 1 + 1 + 1 := by rw [hW7]; simp [World.drew]
  have HIM : Hid (Im w g (some ad) (m + 1) c w.heap.size (w.heap.size + 1) (w.heap.size + 1 + 1) (w.heap.size + 1 + 1 + 1) (w.heap.size + 1 + 1 + 1 + 1) (w.heap.size + 1 + 1 + 1 + 1 + 1) (w.heap.size + 1 + 1 + 1 + 1 + 1 + 1) (fun k => (p k : Int)) (fun _ => 0) (m : Int) (bm : Int) W7) := by
    have HSA0 := HSA.out
    refine hide ⟨?_, ?_, ?_, ?_, ?_, ?_, ?_, ?_, ?_⟩
    · rw [hW7]; exact ((((((Blk.new w 23 _).alloc _).alloc _).alloc _).alloc _).alloc _).drew.alloc _
    · rw [hW7]; exact (((((Blk.new_ (w.alloc _) 22 _ (by simp)).alloc _).alloc _).alloc _).alloc _).drew.alloc _
    · rw [hW7]; exact ((((Blk.new_ ((w.alloc _).alloc _) 3 _ (by simp)).alloc _).alloc _).alloc _).drew.alloc _
    · rw [hW7]; exact (((Blk.new_ (((w.alloc _).alloc _).alloc _) 23 _ (by simp)).alloc _).alloc _).drew.alloc _
    · rw [hW7]; exact ((Blk.new_ ((((w.alloc _).alloc _).alloc _).alloc _) 3 _ (by simp)).alloc _).drew.alloc _
    · rw [hW7]; exact (Blk.new_ (((((w.alloc _).alloc _).alloc _).alloc _).alloc _) 5 _ (by simp)).drew.alloc _
    · rw [hW7]; exact Blk.new_ _ 23 _ (by simp [World.drew])
    · rw [hW7]; exact ((((((HSA0.alloc _).alloc _).alloc _).alloc _).alloc _).alloc _).drew.alloc _
    · rw [hW7]; exact (((((((Chg.refl (fun i => i = g) w).alloc _).alloc _).alloc _).alloc _).alloc _).alloc _).drew.alloc _
  clear hW7 q5 q6 r5 r6
  generalize hb1 : w.heap.size + 1 = b1 at *
  generalize hb2 : b1 + 1 = b2 at *
  generalize hb3 : b2 + 1 = b3 at *
  generalize hb4 : b3 + 1 = b4 at *
  generalize hb5 : b4 + 1 = b5 at *
  generalize hb6 : b5 + 1 = b6 at *
  generalize hb0 : w.heap.size = b0 at *
  have HNM : Hid (Nm w g b0 b1 b2 b3 b4 b5 b6) := hide ⟨by omega, hb0.symm, hb1.symm, hb2.symm, hb3.symm, hb4.symm, hb5.symm, hb6.symm⟩
  gi_wp2
  refine range_rounds hro (by omega) (gf := 31) (lb := #[.pointer (some ⟨b6, 0, none⟩)]) rfl trivial (enters_of Try.func31 (by kernel_rfl) rfl) (fun r => #[.int .i64 ((m + 1 - 1 - r : Nat) : Int), .int .i64 (p (m + 1 - 1 - r) : Int)]) (m + 1) (fun _ => rfl)
    (fun r W => ∃ (S I : Nat → Int) (e : Nat), Im w g (some ad) (m + 1) c b0 b1 b2 b3 b4 b5 b6 S I (e : Int) (byt s p e : Int) W ∧ Bk s (m + 1) p (m + 1 - r) e S I) ?own ?start ?seq ?round ?done
  case own =>
    rintro r W W' row ⟨S, I, e, hm, hk⟩ hgr hrow
    exact ⟨S, I, e, hm.kept HNM.out (Chg.ofGrown (S := fun i => b6 + 1 ≤ i) hgr (fun j hj _ => by have h9 := (hrow j hj).1; show b6 + 1 ≤ j; omega)) (fun i hi h => by have h9 : b6 + 1 ≤ i := h; omega), hk⟩
  case start =>
    refine ⟨fun k => (p k : Int), fun _ => 0, m, ?_, Bk.start (by omega) (fun k _ => rfl)⟩
    rw [HBM.out]
    exact HIM.out
  case seq =>
    intro l J W hJ hY hJ0
    refine back_any Fence.wide _ trivial hro (by omega) l b6 g (m + 1) (m + 1) (fun k => (p k : Int)) (by omega) J (fun r V hV => ?_) (fun r V hr hV => hY r V hr hV) W hJ0
    obtain ⟨S, I, e, hm, hk⟩ := hJ r V hV
    refine ⟨by simpa using hm.bbk.cell 0, fun k hkr => ?_⟩
    have h1 := hm.sa.icell (i := k) (by omega)
    rw [hk.row k (by omega), if_neg (by omega)] at h1
    exact h1
  case round =>
    rintro l r W hr ⟨S0, I0, e0, hm0, hk0⟩
    clear hm0 hk0 HIM
    gi_wp2
    refine ⟨trivial, ?_⟩
    rintro Y ⟨S, I, e, hm, hBk⟩
    have HM1 := hide hm
    clear hm
    obtain ⟨q, hq⟩ : ∃ q, q = m - r := ⟨_, rfl⟩
    rw [show m - r = q from hq.symm]
    have HQ := hide hq
    rw [show m + 1 - r = q + 1 by omega] at hBk
    have hqm : q < m + 1 := by omega
    have hpq := PM.out.lt q hqm
    have hy1 := (H.out.chg HM1.out.chg (fun i hi hK => hK.2)).at_ hpq
    obtain ⟨ad', u, had, hadl, hx, hcx⟩ := hy1
    obtain rfl : ad = ad' := Option.some.inj had
    obtain ⟨hx1, rfl⟩ := bts_at hx
    have hbq : s[p q].toNat = byt s p q := by unfold byt; simp [List.getD_eq_getElem?_getD, hx1]
    rw [hbq] at hcx
    have hbl : byt s p q < 256 := by rw [← hbq]; exact s[p q].toNat_lt
    have hel := hBk.elt
    clear hq
    have k0 := HM1.out.bsa.cell 0
    have k1 := HM1.out.bda.cell 0
    have k3 := HM1.out.bin.cell 0
    have k4 := HM1.out.bpr.cell 0
    have k5 := HM1.out.bby.cell 0
    simp at k0 k1 k3 k4 k5
    have f4 := HM1.out.bpr.frozen 0
    have f5 := HM1.out.bby.frozen 0
    have ki := HM1.out.inv.icell hpq
    have fi := HM1.out.inv.frozen (p q)
    have ks0 := HM1.out.sa.icell (i := 0) (by omega)
    have fs0 := HM1.out.sa.frozen 0
    have n_g_b0 : g ≠ b0 := by omega
    have n_g_b1 : g ≠ b1 := by omega
    have n_g_b2 : g ≠ b2 := by omega
    have n_g_b3 : g ≠ b3 := by omega
    have n_g_b4 : g ≠ b4 := by omega
    have n_g_b5 : g ≠ b5 := by omega
    have n_b0_g : b0 ≠ g := by omega
    have n_b0_b1 : b0 ≠ b1 := by omega
    have n_b0_b2 : b0 ≠ b2 := by omega
    have n_b0_b3 : b0 ≠ b3 := by omega
    have n_b0_b4 : b0 ≠ b4 := by omega
    have n_b0_b5 : b0 ≠ b5 := by omega
    have n_b1_g : b1 ≠ g := by omega
    have n_b1_b0 : b1 ≠ b0 := by omega
    have n_b1_b2 : b1 ≠ b2 := by omega
    have n_b1_b3 : b1 ≠ b3 := by omega
    have n_b1_b4 : b1 ≠ b4 := by omega
    have n_b1_b5 : b1 ≠ b5 := by omega
    have n_b2_g : b2 ≠ g := by omega
    have n_b2_b0 : b2 ≠ b0 := by omega
    have n_b2_b1 : b2 ≠ b1 := by omega
    have n_b2_b3 : b2 ≠ b3 := by omega
    have n_b2_b4 : b2 ≠ b4 := by omega
    have n_b2_b5 : b2 ≠ b5 := by omega
    have n_b3_g : b3 ≠ g := by omega
    have n_b3_b0 : b3 ≠ b0 := by omega
    have n_b3_b1 : b3 ≠ b1 := by omega
    have n_b3_b2 : b3 ≠ b2 := by omega
    have n_b3_b4 : b3 ≠ b4 := by omega
    have n_b3_b5 : b3 ≠ b5 := by omega
    have n_b4_g : b4 ≠ g := by omega
    have n_b4_b0 : b4 ≠ b0 := by omega
    have n_b4_b1 : b4 ≠ b1 := by omega
    have n_b4_b2 : b4 ≠ b2 := by omega
    have n_b4_b3 : b4 ≠ b3 := by omega
    have n_b4_b5 : b4 ≠ b5 := by omega
    have n_b5_g : b5 ≠ g := by omega
    have n_b5_b0 : b5 ≠ b0 := by omega
    have n_b5_b1 : b5 ≠ b1 := by omega
    have n_b5_b2 : b5 ≠ b2 := by omega
    have n_b5_b3 : b5 ≠ b3 := by omega
    have n_b5_b4 : b5 ≠ b4 := by omega
    by_cases hlt : byt s p q < byt s p e
    · by_cases ho : e = q + 1
      · have ks1 := HM1.out.sa.icell (i := q + 1) (by omega)
        have fs1 := HM1.out.sa.frozen (q + 1)
        by_cases hz : q = 0
        · as_aux_lemma =>
          have HF : Hid (∃ (S8 I8 : Nat → Int) (e8 : Nat), Im w g (some ad) (m + 1) c b0 b1 b2 b3 b4 b5 b6 S8 I8 (e8 : Int) (byt s p e8 : Int) (((((Y.setCell ⟨g, q + 1, none⟩ (.int .i64 (-1))).setCell ⟨b5, 0, none⟩ (.int .u8 (byt s p q : Int))).setCell ⟨b4, 0, none⟩ (.int .i64 (q : Int))).setCell ⟨b2, p q, none⟩ (.int .i64 (q : Int))).setCell ⟨g, 0, none⟩ (.int .i64 (-1))) ∧ Bk s (m + 1) p (m + 1 - (r + 1)) e8 S8 I8) := by
            have hbk := hBk.new PM.out hqm hlt HM.out
            rw [if_pos hz, if_pos ho] at hbk
            have hq7 := HQ.out
            rw [show m + 1 - (r + 1) = q by omega]
            exact hide ⟨_, _, q, (((((HM1.out.setS HNM.out (q + 1) (-1)).setY HNM.out (byt s p q : Int)).setE HNM.out (q : Int)).setI HNM.out (p q) (q : Int)).setS HNM.out 0 (-1)), hbk⟩
          have hd9 : decide ((byt s p q : Int) < (byt s p e : Int)) = true := by simp; omega
          have ho9 : ((e : Int) == (q : Int) + 1) = true := by simp; omega
          have hz9 : ((q : Int) == 0) = true := by simp; omega
          clear hz
          have hq8 : q + 1 < m + 1 := by omega
          clear ho
          clear hBk
          generalize byt s p q = yq at *
          generalize byt s p e = ye at *
          gi_wp2
          obtain ⟨S9, I9, e9, m9, k9⟩ := HF.out
          exact ⟨(((((KeepsOthers.setCell _ _ _).trans (KeepsOthers.setCell _ _ _)).trans (KeepsOthers.setCell _ _ _)).trans (KeepsOthers.setCell _ _ _)).trans (KeepsOthers.setCell _ _ _)).from _, S9, I9, e9, m9, k9⟩
        · as_aux_lemma =>
          have HF : Hid (∃ (S8 I8 : Nat → Int) (e8 : Nat), Im w g (some ad) (m + 1) c b0 b1 b2 b3 b4 b5 b6 S8 I8 (e8 : Int) (byt s p e8 : Int) ((((Y.setCell ⟨g, q + 1, none⟩ (.int .i64 (-1))).setCell ⟨b5, 0, none⟩ (.int .u8 (byt s p q : Int))).setCell ⟨b4, 0, none⟩ (.int .i64 (q : Int))).setCell ⟨b2, p q, none⟩ (.int .i64 (q : Int))) ∧ Bk s (m + 1) p (m + 1 - (r + 1)) e8 S8 I8) := by
            have hbk := hBk.new PM.out hqm hlt HM.out
            rw [if_neg hz, if_pos ho] at hbk
            have hq7 := HQ.out
            rw [show m + 1 - (r + 1) = q by omega]
            exact hide ⟨_, _, q, ((((HM1.out.setS HNM.out (q + 1) (-1)).setY HNM.out (byt s p q : Int)).setE HNM.out (q : Int)).setI HNM.out (p q) (q : Int)), hbk⟩
          have hd9 : decide ((byt s p q : Int) < (byt s p e : Int)) = true := by simp; omega
          have ho9 : ((e : Int) == (q : Int) + 1) = true := by simp; omega
          have hz9 : ((q : Int) == 0) = false := by simp; omega
          have hq8 : q + 1 < m + 1 := by omega
          clear ho
          clear hBk
          generalize byt s p q = yq at *
          generalize byt s p e = ye at *
          gi_wp2
          obtain ⟨S9, I9, e9, m9, k9⟩ := HF.out
          exact ⟨((((KeepsOthers.setCell _ _ _).trans (KeepsOthers.setCell _ _ _)).trans (KeepsOthers.setCell _ _ _)).trans (KeepsOthers.setCell _ _ _)).from _, S9, I9, e9, m9, k9⟩
      · by_cases hz : q = 0
        · as_aux_lemma =>
          have HF : Hid (∃ (S8 I8 : Nat → Int) (e8 : Nat), Im w g (some ad) (m + 1) c b0 b1 b2 b3 b4 b5 b6 S8 I8 (e8 : Int) (byt s p e8 : Int) ((((Y.setCell ⟨b5, 0, none⟩ (.int .u8 (byt s p q : Int))).setCell ⟨b4, 0, none⟩ (.int .i64 (q : Int))).setCell ⟨b2, p q, none⟩ (.int .i64 (q : Int))).setCell ⟨g, 0, none⟩ (.int .i64 (-1))) ∧ Bk s (m + 1) p (m + 1 - (r + 1)) e8 S8 I8) := by
            have hbk := hBk.new PM.out hqm hlt HM.out
            rw [if_pos hz, if_neg ho] at hbk
            have hq7 := HQ.out
            rw [show m + 1 - (r + 1) = q by omega]
            exact hide ⟨_, _, q, ((((HM1.out.setY HNM.out (byt s p q : Int)).setE HNM.out (q : Int)).setI HNM.out (p q) (q : Int)).setS HNM.out 0 (-1)), hbk⟩
          have hd9 : decide ((byt s p q : Int) < (byt s p e : Int)) = true := by simp; omega
          have ho9 : ((e : Int) == (q : Int) + 1) = false := by simp; omega
          have hz9 : ((q : Int) == 0) = true := by simp; omega
          clear hz
          clear hBk
          generalize byt s p q = yq at *
          generalize byt s p e = ye at *
          gi_wp2
          obtain ⟨S9, I9, e9, m9, k9⟩ := HF.out
          exact ⟨((((KeepsOthers.setCell _ _ _).trans (KeepsOthers.setCell _ _ _)).trans (KeepsOthers.setCell _ _ _)).trans (KeepsOthers.setCell _ _ _)).from _, S9, I9, e9, m9, k9⟩
        · as_aux_lemma =>
          have HF : Hid (∃ (S8 I8 : Nat → Int) (e8 : Nat), Im w g (some ad) (m + 1) c b0 b1 b2 b3 b4 b5 b6 S8 I8 (e8 : Int) (byt s p e8 : Int) (((Y.setCell ⟨b5, 0, none⟩ (.int .u8 (byt s p q : Int))).setCell ⟨b4, 0, none⟩ (.int .i64 (q : Int))).setCell ⟨b2, p q, none⟩ (.int .i64 (q : Int))) ∧ Bk s (m + 1) p (m + 1 - (r + 1)) e8 S8 I8) := by
            have hbk := hBk.new PM.out hqm hlt HM.out
            rw [if_neg hz, if_neg ho] at hbk
            have hq7 := HQ.out
            rw [show m + 1 - (r + 1) = q by omega]
            exact hide ⟨_, _, q, (((HM1.out.setY HNM.out (byt s p q : Int)).setE HNM.out (q : Int)).setI HNM.out (p q) (q : Int)), hbk⟩
          have hd9 : decide ((byt s p q : Int) < (byt s p e : Int)) = true := by simp; omega
          have ho9 : ((e : Int) == (q : Int) + 1) = false := by simp; omega
          have hz9 : ((q : Int) == 0) = false := by simp; omega
          clear hBk
          generalize byt s p q = yq at *
          generalize byt s p e = ye at *
          gi_wp2
          obtain ⟨S9, I9, e9, m9, k9⟩ := HF.out
          exact ⟨(((KeepsOthers.setCell _ _ _).trans (KeepsOthers.setCell _ _ _)).trans (KeepsOthers.setCell _ _ _)).from _, S9, I9, e9, m9, k9⟩
    · by_cases hz : e = 0
      · as_aux_lemma =>
        have HF : Hid (∃ (S8 I8 : Nat → Int) (e8 : Nat), Im w g (some ad) (m + 1) c b0 b1 b2 b3 b4 b5 b6 S8 I8 (e8 : Int) (byt s p e8 : Int) ((Y.setCell ⟨b2, p q, none⟩ (.int .i64 (e : Int))).setCell ⟨g, 0, none⟩ (.int .i64 (-1))) ∧ Bk s (m + 1) p (m + 1 - (r + 1)) e8 S8 I8) := by
          have hbk := hBk.old PM.out hqm hlt HM.out
          rw [if_pos hz] at hbk
          have hq7 := HQ.out
          rw [show m + 1 - (r + 1) = q by omega]
          exact hide ⟨_, _, e, ((HM1.out.setI HNM.out (p q) (e : Int)).setS HNM.out 0 (-1)), hbk⟩
        have hd9 : decide ((byt s p q : Int) < (byt s p e : Int)) = false := by simp; omega
        have hz9 : ((e : Int) == 0) = true := by simp; omega
        clear hz
        clear hBk
        generalize byt s p q = yq at *
        generalize byt s p e = ye at *
        gi_wp2
        obtain ⟨S9, I9, e9, m9, k9⟩ := HF.out
        exact ⟨((KeepsOthers.setCell _ _ _).trans (KeepsOthers.setCell _ _ _)).from _, S9, I9, e9, m9, k9⟩
      · as_aux_lemma =>
        have HF : Hid (∃ (S8 I8 : Nat → Int) (e8 : Nat), Im w g (some ad) (m + 1) c b0 b1 b2 b3 b4 b5 b6 S8 I8 (e8 : Int) (byt s p e8 : Int) (Y.setCell ⟨b2, p q, none⟩ (.int .i64 (e : Int))) ∧ Bk s (m + 1) p (m + 1 - (r + 1)) e8 S8 I8) := by
          have hbk := hBk.old PM.out hqm hlt HM.out
          rw [if_neg hz] at hbk
          have hq7 := HQ.out
          rw [show m + 1 - (r + 1) = q by omega]
          exact hide ⟨_, _, e, (HM1.out.setI HNM.out (p q) (e : Int)), hbk⟩
        have hd9 : decide ((byt s p q : Int) < (byt s p e : Int)) = false := by simp; omega
        have hz9 : ((e : Int) == 0) = false := by simp; omega
        clear hBk
        generalize byt s p q = yq at *
        generalize byt s p e = ye at *
        gi_wp2
        obtain ⟨S9, I9, e9, m9, k9⟩ := HF.out
        exact ⟨(KeepsOthers.setCell _ _ _).from _, S9, I9, e9, m9, k9⟩
  case done =>
    rintro D W hD ⟨S, I, e, hm, hk⟩ hK
    rw [show m + 1 - (m + 1) = 0 by omega] at hk
    have HINI := hide (hk.fin PM.out HM.out)
    have HM1 := hide hm
    have HK := hide hK
    clear hm hk hK HIM
    have hml : m < s.length := by omega
    obtain ⟨ad', u, had, hadl, hx, hcx⟩ := (H.out.chg HM1.out.chg (fun i hi hK => hK.2)).at_ (show m < m + 1 by omega)
    obtain rfl : ad = ad' := Option.some.inj had
    obtain ⟨hx1, rfl⟩ := bts_at hx
    obtain ⟨lb, hlb⟩ : ∃ lb, lb = s[m].toNat := ⟨_, rfl⟩
    have hlbl : lb < 256 := by rw [hlb]; exact s[m].toNat_lt
    rw [← hlb] at hcx
    have HLB := hide hlb
    have k0 := HM1.out.bsa.cell 0
    have k1 := HM1.out.bda.cell 0
    simp at k0 k1
    clear had hx hlb
    have HFS : Hid (Fst s m S p lb 0 (-1)) := hide ⟨fun j hj => by omega, Or.inl ⟨rfl, fun j hj => by omega⟩⟩
    have HLM : Hid (Im w g (some ad) (m + 1) c b0 b1 b2 b3 b4 b5 b6 S I (e : Int) (byt s p e : Int) W ∧ W.heap[D]? = some (.deferred (some []))) := hide ⟨HM1.out, HK.out⟩
    gi_wp2
    gi_loopw [12, 64] (fun s12 s64 wr => ∃ (i : Nat) (sv : Int), s64 = .int .i64 i ∧ s12 = .int .i64 sv ∧ i ≤ m + 1 ∧ Hid (Im w g (some ad) (m + 1) c b0 b1 b2 b3 b4 b5 b6 S I (e : Int) (byt s p e : Int) wr ∧ wr.heap[D]? = some (.deferred (some []))) ∧ Hid (Fst s m S p lb i sv)) (fun _ s64 _ => m + 1 - (intOf s64).toNat)
    case atStart => exact ⟨0, -1, rfl, rfl, by omega, HLM, HFS⟩
    case round =>
      obtain ⟨i, sv, rfl, rfl, him, HL, HF⟩ := hrel
      clear HFS hcx HLM k0 k1 HM1 HK
      have k0 := HL.out.1.bsa.cell 0
      have k1 := HL.out.1.bda.cell 0
      simp at k0 k1
      by_cases hlt : i < m + 1
      · have ks := HL.out.1.sa.icell (i := i) hlt
        have hrow := HINI.out.row i hlt
        by_cases hsg : Sing (byt s p) (m + 1) i
        · as_aux_lemma =>
          rw [hrow, if_pos hsg] at ks
          have HF2 := hide (HF.out.skip (Or.inl (show S i < 0 by rw [hrow, if_pos hsg]; omega)))
          clear hrow hsg
          gi_wp2
          exact ⟨⟨i + 1, sv, by go_num, rfl, by omega, HL, HF2⟩, by simp [intOf]; omega⟩
        · rw [if_neg hsg] at hrow
          rw [hrow] at ks
          have hpi := PM.out.lt i hlt
          obtain ⟨ad', u, had, hadl2, hx, hcx⟩ := (H.out.chg HL.out.1.chg (fun i hi hK => hK.2)).at_ hpi
          obtain rfl : ad = ad' := Option.some.inj had
          obtain ⟨hx2, rfl⟩ := bts_at hx
          have hby : s[p i].toNat = byt s p i := by unfold byt; simp [List.getD_eq_getElem?_getD, hx2]
          have hbl : byt s p i < 256 := by rw [← hby]; exact s[p i].toNat_lt
          rw [hby] at hcx
          have HROW := hide hrow
          have HSG := hide hsg
          clear had hx hx2 hby hrow hsg
          have hnx : ∀ q : Nat, (Im w g (some ad) (m + 1) c b0 b1 b2 b3 b4 b5 b6 S I (e : Int) (byt s p e : Int) wr ∧ wr.heap[D]? = some (.deferred (some []))) → (Im w g (some ad) (m + 1) c b0 b1 b2 b3 b4 b5 b6 S I (e : Int) (byt s p e : Int) (wr.drewN q) ∧ (wr.drewN q).heap[D]? = some (.deferred (some []))) := fun q h => ⟨h.1.drewN q, h.2⟩
          have HNX := hide hnx
          clear hnx
          by_cases hyl : byt s p i = lb
          · have hy9 : ((byt s p i : Int) == (lb : Int)) = true := by simp; omega
            rcases HF.out.2 with ⟨rfl, hnone⟩ | ⟨a, rfl, ha1, ha2, ha3, ha4⟩
            · have hfst : ∀ j, j < i → byt s p j ≠ byt s p i := fun j hj e => by
                have hr := HINI.out.row j (by omega)
                by_cases hsj : Sing (byt s p) (m + 1) j
                · have := hsj.alone HM.out (by omega) hlt e.symm
                  omega
                · rw [if_neg hsj] at hr
                  exact hnone j hj (by rw [hr]; omega) (by omega)
              by_cases hpm : p i = m
              · as_aux_lemma =>
                have hp9 : ((p i : Int) == (m : Int)) = true := by simp; omega
                have hfin := hide (HINI.out.hd2 hs (by omega) (L := i) (i0 := i) hlt hpm HSG.out (by omega) (by rfl) (fun j hj => hfst j (by omega)))
                have HPM := hide hpm
                rw [hpm] at ks hcx hpi hp9
                rw [hyl] at hcx
                clear hyl hy9 hpm
                gi_wp2
                gi_quiet (fail)
                generalize nq = n1 at *
                gi_wp2
                gi_quiet (fail)
                gi_wp2
                have HLY : Hid (Im w g (some ad) (m + 1) c b0 b1 b2 b3 b4 b5 b6 S I (e : Int) (byt s p e : Int) ((wr.drewN n1).drewN nq) ∧ ((wr.drewN n1).drewN nq).heap[D]? = some (.deferred (some []))) := hide ⟨(HL.out.1.drewN n1).drewN nq, HL.out.2⟩
                obtain ⟨Y, hY⟩ : ∃ Y, Y = (wr.drewN n1).drewN nq := ⟨_, rfl⟩
                rw [← hY] at HLY ⊢
                have HSA2 : Hid (S i = p i) := hide HROW.out
                have hpc : p i < m + 1 := PM.out.lt i (by omega)
                clear hY HL HNX HF ks hcx k0 k1 hfst hpi hbl
                have k0 := HLY.out.1.bsa.cell 0
                simp at k0
                have ks := HLY.out.1.sa.icell (i := i) hlt
                rw [HROW.out, HPM.out] at ks
                have fs := HLY.out.1.sa.frozen i
                have HLZ : Hid (Im w g (some ad) (m + 1) c b0 b1 b2 b3 b4 b5 b6 (upd (upd S i (p i : Int)) i (m : Int)) I (e : Int) (byt s p e : Int) ((Y.setCell ⟨g, i, none⟩ (.int .i64 (p i : Int))).setCell ⟨g, i, none⟩ (.int .i64 (m : Int))).drew ∧ (((Y.setCell ⟨g, i, none⟩ (.int .i64 (p i : Int))).setCell ⟨g, i, none⟩ (.int .i64 (m : Int))).drew).heap[D]? = some (.deferred (some []))) :=
                  hide ⟨((HLY.out.1.setS HNM.out i _).setS HNM.out i _).drew, (Below.heap_setCell _ _ _ _ (by simp; omega)).trans ((Below.heap_setCell _ _ _ _ (by simp; omega)).trans HLY.out.2)⟩
                rw [HPM.out] at HLZ hpc
                generalize p i = pa at *
                have n_b0_g : b0 ≠ g := by omega
                have n_g_b0 : g ≠ b0 := by omega
                have hfin2 := hfin.out
                rw [HPM.out] at hfin2
                have HP := hide (And.intro HSA.out (And.intro HNM.out (And.intro hfin2 (And.intro HLZ.out (And.intro hb0 (And.intro hD hsz7))))))
                refine wpIn_wide.2 (wp_region_noPanic ?_)
                clear hfin2 hmk HSA PM HM HBM hb1 hb2 hb3 hb4 hb5 hb6 hsz7 hb0 HB6 hadl2 H HNM hD HINI hml hadl HLB hlbl HROW hfin HPM HSA2 HLZ HLY HSG hpl hg hx1
                go_big_region
                all_goals (refine NoPanic.normal ?_)
                all_goals
                  as_aux_lemma =>
                  obtain ⟨V1, hV1⟩ : ∃ V1, V1 = ((Y.setCell ⟨g, i, none⟩ (.int .i64 (m : Int))).setCell ⟨g, i, none⟩ (.int .i64 (m : Int))).drew := ⟨_, rfl⟩
                  rw [← hV1] at HP ⊢
                  obtain ⟨HSA, HNM, hfin, ⟨hL1, hL2⟩, hb0, hD, hsz7⟩ := HP.out
                  clear hV1 HP ks fs k0
                  have hsz8 := hide hsz7
                  have hD8 := hide hD
                  have hb08 := hide hb0
                  clear hsz7 hD hb0
                  have HSA := hide HSA
                  have HNM := hide HNM
                  have hfin := hide hfin
                  have k0 := hL1.bsa.cell 0
                  have k3 := hL1.bin.cell 0
                  simp at k0 k3
                  have ka := hL1.sa.icell (i := i) (by omega)
                  rw [upd_at] at ka
                  obtain ⟨mx, hmx⟩ : ∃ mx, mx = m := ⟨_, rfl⟩
                  have HMX := hide hmx
                  rw [← hmx] at ka
                  have hml9 : mx < m + 1 := by omega
                  clear hmx
                  have ki := hL1.inv.icell hml9
                  have fi := hL1.inv.frozen mx
                  have HL := hide (And.intro hL1 hL2)
                  clear hL1 hL2
                  have n_b2_g : b2 ≠ g := by obtain ⟨h1, h2, h3, h4, h5, h6, h7, h8⟩ := HNM.out; omega
                  have n_b2_b0 : b2 ≠ b0 := by obtain ⟨h1, h2, h3, h4, h5, h6, h7, h8⟩ := HNM.out; omega
                  have n_b2_b3 : b2 ≠ b3 := by obtain ⟨h1, h2, h3, h4, h5, h6, h7, h8⟩ := HNM.out; omega
                  gi_wp2
                  refine wpIn_wide.2 (wp_region_noPanic ?_)
                  go_big_region
                  refine NoPanic.normal ?_
                  have hX := And.intro (HL.out.1.setI HNM.out mx (i : Int)).drew (show ((V1.setCell ⟨b2, mx, none⟩ (.int .i64 (i : Int))).drew).heap[D]? = some (.deferred (some [])) from (Below.heap_setCell V1 ⟨b2, mx, none⟩ (.int .i64 (i : Int)) D (by obtain ⟨h1, h2, h3, h4, h5, h6, h7, h8⟩ := HNM.out; have h9 := hD8.out; have h10 := hsz8.out; simp; omega)).trans HL.out.2)
                  obtain ⟨V2, hV2⟩ : ∃ V2, V2 = (V1.setCell ⟨b2, mx, none⟩ (.int .i64 (i : Int))).drew := ⟨_, rfl⟩
                  rw [← hV2] at hX ⊢
                  clear ka ki fi k0 k3 HL hV2
                  have k0 := hX.1.bsa.cell 0
                  have k3 := hX.1.bin.cell 0
                  simp at k0 k3
                  have ka := hX.1.sa.icell (i := i) (by omega)
                  have fa := hX.1.sa.frozen i
                  have n_b3_g : b3 ≠ g := by obtain ⟨h1, h2, h3, h4, h5, h6, h7, h8⟩ := HNM.out; omega
                  have hY := hide (And.intro (hX.1.setS HNM.out i (-1)) ((Below.heap_setCell V2 ⟨g, i, none⟩ (.int .i64 (-1)) D (by obtain ⟨h1, h2, h3, h4, h5, h6, h7, h8⟩ := HNM.out; have h9 := hD8.out; have h10 := hsz8.out; simp; omega)).trans hX.2))
                  clear hX
                  gi_wp2
                  obtain ⟨h1, h2⟩ := hY.out
                  have h3 := hfin.out
                  rw [Nat.add_sub_cancel] at h3
                  rw [upd_upd, HMX.out] at h1
                  have hc : Chg (fun i => i = D) (V2.setCell ⟨g, i, none⟩ (.int .i64 (-1))) ((V2.setCell ⟨g, i, none⟩ (.int .i64 (-1))).putObj D (.deferred none)) := Chg.ofGrown (S := fun i => i = D) (grownBy_putObj' _ D _) (fun j hj _ => (Option.some.inj hj).symm)
                  obtain ⟨q1, q2, q3, q4, q5, q6, q7, q8⟩ := HNM.out
                  have hD9 := hD8.out
                  have hz9 := hsz8.out
                  refine ⟨by simp, .inl ⟨_, _, rfl, run_takeDeferred h2, ?_⟩⟩
                  exact ⟨_, results_tmp rfl _ _ _, _, _, _, by rw [show b2 = w.heap.size + 2 by omega]; rfl, h1.chg.trans hc (fun i hi hj => by omega), by rw [show w.heap.size + 2 = b2 by omega]; exact h1.inv.chg hc (by omega), h1.sa.chg hc (by omega), h3⟩
              · as_aux_lemma =>
                have hp9 : ((p i : Int) == (m : Int)) = false := by simp; omega
                have HF2 : Hid (Fst s m S p lb (i + 1) (i : Int)) := hide ⟨fun j hj => by
                    by_cases e : j = i
                    · subst e; have h9 := HROW.out; omega
                    · exact HF.out.1 j (by omega), Or.inr ⟨i, rfl, by omega, by have h9 := HROW.out; omega, hyl, fun j hj h0 => hnone j hj h0⟩⟩
                rw [hyl] at hcx
                clear hyl hy9 hbl
                gi_wp2
                gi_quiet (fail)
                gi_wp2
                gi_quiet (fail)
                gi_wp2
                exact ⟨⟨i + 1, i, by go_num, rfl, by omega, hide (HNX.out _ HL.out), HF2⟩, by simp [intOf]; omega⟩
            · have hs9 : ((a : Int) == -1) = false := by first | (simp; done) | (simp; omega)
              by_cases hpm : p i = m
              · as_aux_lemma =>
                have hp9 : ((p i : Int) == (m : Int)) = true := by simp; omega
                have hfst : ∀ j, j < a → byt s p j ≠ byt s p i := fun j hj e => by
                  have hr := HINI.out.row j (by omega)
                  by_cases hsj : Sing (byt s p) (m + 1) j
                  · have := hsj.alone HM.out (by omega) hlt e.symm
                    omega
                  · rw [if_neg hsj] at hr
                    exact ha4 j hj (by rw [hr]; omega) (by omega)
                have hSa : S a = p a := by
                  have hr := HINI.out.row a (by omega)
                  by_cases hsj : Sing (byt s p) (m + 1) a
                  · rw [if_pos hsj] at hr; omega
                  · rw [if_neg hsj] at hr; exact hr
                have hfin := hide (HINI.out.hd2 hs (by omega) (L := i) (i0 := a) hlt hpm HSG.out (by omega) (by omega) (fun j hj => hfst j (by omega)))
                have HPM := hide hpm
                rw [hpm] at ks hcx hpi hp9
                rw [hyl] at hcx
                clear hyl hy9 hpm
                gi_wp2
                gi_quiet (fail)
                generalize nq = n1 at *
                gi_wp2
                gi_quiet (fail)
                gi_wp2
                have HLY : Hid (Im w g (some ad) (m + 1) c b0 b1 b2 b3 b4 b5 b6 S I (e : Int) (byt s p e : Int) ((wr.drewN n1).drewN nq) ∧ ((wr.drewN n1).drewN nq).heap[D]? = some (.deferred (some []))) := hide ⟨(HL.out.1.drewN n1).drewN nq, HL.out.2⟩
                obtain ⟨Y, hY⟩ : ∃ Y, Y = (wr.drewN n1).drewN nq := ⟨_, rfl⟩
                rw [← hY] at HLY ⊢
                have HSA2 : Hid (S a = p a) := hide hSa
                have hpc : p a < m + 1 := PM.out.lt a (by omega)
                clear hY HL HNX HF ks hcx k0 k1 hfst hpi hbl ha2 hSa hs9
                have k0 := HLY.out.1.bsa.cell 0
                simp at k0
                have ks := HLY.out.1.sa.icell (i := i) hlt
                rw [HROW.out, HPM.out] at ks
                have fs := HLY.out.1.sa.frozen i
                have ka := HLY.out.1.sa.icell (i := a) (by omega)
                rw [HSA2.out] at ka
                have fa := HLY.out.1.sa.frozen a
                have nai : a ≠ i := by omega
                have nia : i ≠ a := by omega
                have HLZ : Hid (Im w g (some ad) (m + 1) c b0 b1 b2 b3 b4 b5 b6 (upd (upd S i (p a : Int)) a (m : Int)) I (e : Int) (byt s p e : Int) ((Y.setCell ⟨g, i, none⟩ (.int .i64 (p a : Int))).setCell ⟨g, a, none⟩ (.int .i64 (m : Int))).drew ∧ (((Y.setCell ⟨g, i, none⟩ (.int .i64 (p a : Int))).setCell ⟨g, a, none⟩ (.int .i64 (m : Int))).drew).heap[D]? = some (.deferred (some []))) :=
                  hide ⟨((HLY.out.1.setS HNM.out i _).setS HNM.out a _).drew, (Below.heap_setCell _ _ _ _ (by simp; omega)).trans ((Below.heap_setCell _ _ _ _ (by simp; omega)).trans HLY.out.2)⟩
                generalize p a = pa at *
                have n_b0_g : b0 ≠ g := by omega
                have n_g_b0 : g ≠ b0 := by omega
                have ha9 : a < m + 1 := by omega
                have ha10 : (a : Int) < (m : Int) + 1 := by omega
                have HP := hide (And.intro HSA.out (And.intro HNM.out (And.intro hfin.out (And.intro HLZ.out (And.intro hb0 (And.intro hD hsz7))))))
                refine wpIn_wide.2 (wp_region_noPanic ?_)
                clear hmk HSA PM HM HBM hb1 hb2 hb3 hb4 hb5 hb6 hsz7 hb0 HB6 hadl2 H HNM hD HINI hml hadl HLB hlbl HROW hfin HPM HSA2 HLZ HLY HSG hpl hg hx1
                go_big_region
                all_goals (refine NoPanic.normal ?_)
                all_goals
                  as_aux_lemma =>
                  obtain ⟨V1, hV1⟩ : ∃ V1, V1 = ((Y.setCell ⟨g, i, none⟩ (.int .i64 (pa : Int))).setCell ⟨g, a, none⟩ (.int .i64 (m : Int))).drew := ⟨_, rfl⟩
                  rw [← hV1] at HP ⊢
                  obtain ⟨HSA, HNM, hfin, ⟨hL1, hL2⟩, hb0, hD, hsz7⟩ := HP.out
                  clear hV1 HP ks fs ka fa k0
                  have hsz8 := hide hsz7
                  have hD8 := hide hD
                  have hb08 := hide hb0
                  clear hsz7 hD hb0
                  have HSA := hide HSA
                  have HNM := hide HNM
                  have hfin := hide hfin
                  have k0 := hL1.bsa.cell 0
                  have k3 := hL1.bin.cell 0
                  simp at k0 k3
                  have ka := hL1.sa.icell (i := a) (by omega)
                  rw [upd_at] at ka
                  obtain ⟨mx, hmx⟩ : ∃ mx, mx = m := ⟨_, rfl⟩
                  have HMX := hide hmx
                  rw [← hmx] at ka
                  have hml9 : mx < m + 1 := by omega
                  clear hmx
                  have ki := hL1.inv.icell hml9
                  have fi := hL1.inv.frozen mx
                  have HL := hide (And.intro hL1 hL2)
                  clear hL1 hL2
                  have n_b2_g : b2 ≠ g := by obtain ⟨h1, h2, h3, h4, h5, h6, h7, h8⟩ := HNM.out; omega
                  have n_b2_b0 : b2 ≠ b0 := by obtain ⟨h1, h2, h3, h4, h5, h6, h7, h8⟩ := HNM.out; omega
                  have n_b2_b3 : b2 ≠ b3 := by obtain ⟨h1, h2, h3, h4, h5, h6, h7, h8⟩ := HNM.out; omega
                  gi_wp2
                  refine wpIn_wide.2 (wp_region_noPanic ?_)
                  go_big_region
                  refine NoPanic.normal ?_
                  have hX := And.intro (HL.out.1.setI HNM.out mx (a : Int)).drew (show ((V1.setCell ⟨b2, mx, none⟩ (.int .i64 (a : Int))).drew).heap[D]? = some (.deferred (some [])) from (Below.heap_setCell V1 ⟨b2, mx, none⟩ (.int .i64 (a : Int)) D (by obtain ⟨h1, h2, h3, h4, h5, h6, h7, h8⟩ := HNM.out; have h9 := hD8.out; have h10 := hsz8.out; simp; omega)).trans HL.out.2)
                  obtain ⟨V2, hV2⟩ : ∃ V2, V2 = (V1.setCell ⟨b2, mx, none⟩ (.int .i64 (a : Int))).drew := ⟨_, rfl⟩
                  rw [← hV2] at hX ⊢
                  clear ka ki fi k0 k3 HL hV2
                  have k0 := hX.1.bsa.cell 0
                  have k3 := hX.1.bin.cell 0
                  simp at k0 k3
                  have ka := hX.1.sa.icell (i := a) (by omega)
                  have fa := hX.1.sa.frozen a
                  have n_b3_g : b3 ≠ g := by obtain ⟨h1, h2, h3, h4, h5, h6, h7, h8⟩ := HNM.out; omega
                  have hY := hide (And.intro (hX.1.setS HNM.out a (-1)) ((Below.heap_setCell V2 ⟨g, a, none⟩ (.int .i64 (-1)) D (by obtain ⟨h1, h2, h3, h4, h5, h6, h7, h8⟩ := HNM.out; have h9 := hD8.out; have h10 := hsz8.out; simp; omega)).trans hX.2))
                  clear hX
                  gi_wp2
                  obtain ⟨h1, h2⟩ := hY.out
                  have h3 := hfin.out
                  rw [Nat.add_sub_cancel] at h3
                  rw [upd_upd, HMX.out] at h1
                  have hc : Chg (fun i => i = D) (V2.setCell ⟨g, a, none⟩ (.int .i64 (-1))) ((V2.setCell ⟨g, a, none⟩ (.int .i64 (-1))).putObj D (.deferred none)) := Chg.ofGrown (S := fun i => i = D) (grownBy_putObj' _ D _) (fun j hj _ => (Option.some.inj hj).symm)
                  obtain ⟨q1, q2, q3, q4, q5, q6, q7, q8⟩ := HNM.out
                  have hD9 := hD8.out
                  have hz9 := hsz8.out
                  refine ⟨by simp, .inl ⟨_, _, rfl, run_takeDeferred h2, ?_⟩⟩
                  exact ⟨_, results_tmp rfl _ _ _, _, _, _, by rw [show b2 = w.heap.size + 2 by omega]; rfl, h1.chg.trans hc (fun i hi hj => by omega), by rw [show w.heap.size + 2 = b2 by omega]; exact h1.inv.chg hc (by omega), h1.sa.chg hc (by omega), h3⟩
              · as_aux_lemma =>
                have hp9 : ((p i : Int) == (m : Int)) = false := by simp; omega
                have HF2 : Hid (Fst s m S p lb (i + 1) (a : Int)) := hide ⟨fun j hj => by
                    by_cases e : j = i
                    · subst e; have h9 := HROW.out; omega
                    · exact HF.out.1 j (by omega), Or.inr ⟨a, rfl, by omega, ha2, ha3, ha4⟩⟩
                rw [hyl] at hcx
                clear hyl hy9 hbl
                gi_wp2
                gi_quiet (fail)
                gi_wp2
                gi_quiet (fail)
                gi_wp2
                exact ⟨⟨i + 1, a, by go_num, rfl, by omega, hide (HNX.out _ HL.out), HF2⟩, by simp [intOf]; omega⟩
          · as_aux_lemma =>
            have hy9 : ((byt s p i : Int) == (lb : Int)) = false := by simp; omega
            have hpm : p i ≠ m := fun e => hyl (by rw [HLB.out]; unfold byt; rw [e]; simp [List.getD_eq_getElem?_getD, hml])
            have hp9 : ((p i : Int) == (m : Int)) = false := by simp; omega
            have HF2 := hide (HF.out.skip (Or.inr ⟨by rw [HROW.out]; omega, hyl⟩))
            generalize byt s p i = yi at *
            gi_wp2
            gi_quiet (fail)
            gi_wp2
            gi_quiet (fail)
            gi_wp2
            exact ⟨⟨i + 1, sv, by go_num, rfl, by omega, hide (HNX.out _ HL.out), HF2⟩, by simp [intOf]; omega⟩
      · as_aux_lemma =>
        obtain rfl : i = m + 1 := by omega
        have HX : Hid (∃ (S9 I9 : Nat → Int) (p9 : Nat → Nat), (Im w g (some ad) (m + 1) c b0 b1 b2 b3 b4 b5 b6 S9 I9 (e : Int) (byt s p e : Int) wr ∧ wr.heap[D]? = some (.deferred (some []))) ∧ Hd s (m + 1) S9 I9 p9 1) := by
          obtain ⟨L, hL, hpL⟩ := PM.out.sur m (by omega)
          have hsL : Sing (byt s p) (m + 1) L := by
            rcases Classical.em (Sing (byt s p) (m + 1) L) with h | h
            · exact h
            · have hr := HINI.out.row L hL
              rw [if_neg h, hpL] at hr
              exact absurd hr (HF.out.1 L hL)
          exact hide ⟨_, _, _, HL.out, HINI.out.hd1 (by omega) (by omega) hL (by omega) hsL⟩
        have k3 := HL.out.1.bin.cell 0
        simp at k3
        gi_wp2
        obtain ⟨S9, I9, p9, ⟨h1, h2⟩, h3⟩ := HX.out
        have hc : Chg (fun i => i = D) wr (wr.putObj D (.deferred none)) := Chg.ofGrown (S := fun i => i = D) (grownBy_putObj' wr D _) (fun j hj _ => (Option.some.inj hj).symm)
        refine ⟨by simp, .inl ⟨_, _, rfl, run_takeDeferred h2, ?_⟩⟩
        exact ⟨_, results_tmp rfl _ _ _, S9, I9, p9, by rw [show b2 = w.heap.size + 2 by omega]; rfl, h1.chg.trans hc (fun i hi hj => by omega), by rw [show w.heap.size + 2 = b2 by omega]; exact h1.inv.chg hc (by omega), h1.sa.chg hc (by omega), h3⟩
end Go.Proofs.Ytaihafoopoaahaa
