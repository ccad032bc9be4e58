/- The walk of qsufsort: the row that it hands back tells the suffixes in their order. Under sizes alone. -/
import Derived.Test.YtaihafoopoaahaaIg1
import Derived.Test.YtaihafoopoaahaaSu5
import Derived.Deep.LoopGhost
namespace Go.Proofs.Ytaihafoopoaahaa
open Go.RowKit

section
variable {sb blk ib n lo sz cap h : Nat} {buf : Value} {I S : Nat → Int} {W W' : World}
theorem UM.setA (u : UM sb blk ib n lo sz cap h buf I S W) (h1 : sb ≠ blk) (h2 : sb ≠ ib) (lo' sz' cap' : Nat) : UM sb blk ib n lo' sz' cap' h buf I S (W.setCell ⟨sb, 0, none⟩ (.slice (some ⟨blk, lo', none⟩) sz' cap')) := by
  refine ⟨?_, u.inv.far (Ne.symm h2) _, u.sa.far (Ne.symm h1) _⟩
  have := u.st.set_ 0 (.slice (some ⟨blk, lo', none⟩) sz' cap')
  simpa using this
theorem UM.setH (u : UM sb blk ib n lo sz cap h buf I S W) (h1 : sb ≠ blk) (h2 : sb ≠ ib) (h' : Nat) : UM sb blk ib n lo sz cap h' buf I S (W.setCell ⟨sb, 2, none⟩ (.int .i64 h')) := by
  refine ⟨?_, u.inv.far (Ne.symm h2) _, u.sa.far (Ne.symm h1) _⟩
  have := u.st.set_ 2 (.int .i64 h')
  simpa using this
end

/-- The sortable between the steps of qsufsort. -/
structure Qm (sb blk ib n h : Nat) (I S : Nat → Int) (W0 : World) (B0 : Nat) (W : World) : Prop where
  um : ∃ lo sz cap buf, UM sb blk ib n lo sz cap h buf I S W ∧ ∃ m xs, W.ownsRow B0 3 1 buf m xs
  chg : Chg (fun g => g = sb ∨ g = ib ∨ g = blk ∨ B0 ≤ g) W0 W
  base : B0 ≤ W.heap.size

/-- The blocks' numbers. -/
structure Qn (sb blk ib B0 : Nat) : Prop where
  h1 : sb ≠ blk
  h2 : ib ≠ blk
  h3 : sb ≠ ib
  b1 : sb < B0
  b2 : blk < B0
  b3 : ib < B0

section
variable {sb blk ib n h B0 : Nat} {I S : Nat → Int} {W0 W : World}
theorem Qm.sa (q : Qm sb blk ib n h I S W0 B0 W) : Blk W blk 3 (arr n S) := by
  obtain ⟨_, _, _, _, u, _⟩ := q.um
  exact u.sa
theorem Qm.inv (q : Qm sb blk ib n h I S W0 B0 W) : Blk W ib 3 (arr n I) := by
  obtain ⟨_, _, _, _, u, _⟩ := q.um
  exact u.inv
theorem Qm.setS (q : Qm sb blk ib n h I S W0 B0 W) (N : Qn sb blk ib B0) (p : Nat) (v : Int) : Qm sb blk ib n h I (upd S p v) W0 B0 (W.setCell ⟨blk, p, none⟩ (.int .i64 v)) := by
  obtain ⟨⟨lo, sz, cap, buf, u, m, xs, ho⟩, hc, hb⟩ := q
  exact ⟨⟨lo, sz, cap, buf, u.setS N.h1 N.h2 p v, m, xs, own_set ho N.b2 _ _⟩, hc.setCell (p := ⟨blk, p, none⟩) (fun _ => Or.inr (Or.inr (Or.inl rfl))) _, by simpa [World.setCell] using hb⟩
theorem Qm.setH (q : Qm sb blk ib n h I S W0 B0 W) (N : Qn sb blk ib B0) (h' : Nat) : Qm sb blk ib n h' I S W0 B0 (W.setCell ⟨sb, 2, none⟩ (.int .i64 h')) := by
  obtain ⟨⟨lo, sz, cap, buf, u, m, xs, ho⟩, hc, hb⟩ := q
  exact ⟨⟨lo, sz, cap, buf, u.setH N.h1 N.h3 h', m, xs, own_set ho N.b1 _ _⟩, hc.setCell (p := ⟨sb, 2, none⟩) (fun _ => Or.inl rfl) _, by simpa [World.setCell] using hb⟩
theorem Qm.setA (q : Qm sb blk ib n h I S W0 B0 W) (N : Qn sb blk ib B0) (lo' sz' cap' : Nat) : Chg (fun g => g = sb ∨ g = ib ∨ g = blk ∨ B0 ≤ g) W0 (W.setCell ⟨sb, 0, none⟩ (.slice (some ⟨blk, lo', none⟩) sz' cap')) ∧ B0 ≤ (W.setCell ⟨sb, 0, none⟩ (.slice (some ⟨blk, lo', none⟩) sz' cap')).heap.size ∧
    ∃ buf, UM sb blk ib n lo' sz' cap' h buf I S (W.setCell ⟨sb, 0, none⟩ (.slice (some ⟨blk, lo', none⟩) sz' cap')) ∧ ∃ m xs, (W.setCell ⟨sb, 0, none⟩ (.slice (some ⟨blk, lo', none⟩) sz' cap')).ownsRow B0 3 1 buf m xs := by
  obtain ⟨⟨lo, sz, cap, buf, u, m, xs, ho⟩, hc, hb⟩ := q
  exact ⟨hc.setCell (p := ⟨sb, 0, none⟩) (fun _ => Or.inl rfl) _, by simpa [World.setCell] using hb, buf, u.setA N.h1 N.h3 lo' sz' cap', m, xs, own_set ho N.b1 _ _⟩
end

theorem le_of_sorted {I : Nat → Int} {h sz : Nat} {d : Array Nat} (hs : Sort.SortedIn (ltK I h) 0 sz d) : ∀ i j, i ≤ j → j < sz → I (d[i]! + h) ≤ I (d[j]! + h) := fun i j h1 h2 => by
  rcases Nat.eq_or_lt_of_le h1 with e | e
  · subst e; exact Int.le_refl _
  · have := hs i j (Nat.zero_le _) e h2
    simp [ltK] at this
    exact this

/-- One group's row, ahead of the sort. -/
def part (p : Nat → Nat) (lo sz : Nat) : Array Nat := (Array.range sz).map (fun i => p (lo + i))
theorem part_size (p : Nat → Nat) (lo sz : Nat) : (part p lo sz).size = sz := by simp [part]
theorem part_at (p : Nat → Nat) (lo sz : Nat) {i : Nat} (hi : i < sz) : (part p lo sz)[i]! = p (lo + i) := by
  rw [getElem!_pos _ _ (by rw [part_size]; exact hi)]
  simp [part]
theorem seg_part {S : Nat → Int} {p : Nat → Nat} {lo sz : Nat} (h : ∀ k, lo ≤ k → k < lo + sz → S k = p k) : seg S lo (part p lo sz) = S := by
  funext k
  unfold seg
  rw [part_size]
  split
  · rename_i hk
    rw [part_at p lo sz (by omega), show lo + (k - lo) = k by omega, h k hk.1 hk.2]
  · rfl

/-- The numbers of the groups are small. -/
theorem Gp.small {n : Nat} {I : Nat → Int} {p : Nat → Nat} (g : Gp n I p) (pm : Pm n p) : ∀ x, x < n → 0 ≤ I x ∧ I x < n := fun x hx => by
  obtain ⟨k, hk, rfl⟩ := pm.sur x hx
  have := g.ge k hk
  omega

/-- One group: sorted, and numbered anew. -/
theorem group_any {sb blk ib n h B0 : Nat} {I S : Nat → Int} {W0 W : World} {s : List UInt8} {p : Nat → Nat} {pi sz cap : Nat} {buf : Value} (N : Qn sb blk ib B0) (hn : n ≤ 1000000)
    (u : UM sb blk ib n pi sz cap h buf I S W) (ho : ∃ m xs, W.ownsRow B0 3 1 buf m xs) (hc : Chg (fun g => g = sb ∨ g = ib ∨ g = blk ∨ B0 ≤ g) W0 W) (hB : B0 ≤ W.heap.size)
    (a : Ps s n S I p h pi 0) (hsz : 1 ≤ sz) (hpn : pi + sz ≤ n) (hg : ∀ k, pi ≤ k → k < pi + sz → S k = p k ∧ I (p k) = ((pi + sz : Nat) : Int) - 1 ∧ p k + h < n) (hr : Pth n S I p h (pi + sz) n) :
    Calls Try.prog 20 #[.iface 39 (rcv sb)] W fun e w' => e = .returned (.tuple #[]) ∧ Calls Try.prog 21 #[rcv sb, .int .i64 pi] w' fun e w' => e = .returned (.tuple #[]) ∧ ∃ (I' S' : Nat → Int) (p' : Nat → Nat), Qm sb blk ib n h I' S' W0 B0 w' ∧ Ps s n S' I' p' h (pi + sz) 0 := by
  have hrow : Row sb blk ib n pi sz cap h buf I S W (part p pi sz) := by
    refine ⟨part_size _ _ _, u.st, u.inv, ?_, fun i hi => ?_⟩
    · rw [seg_part (fun k h1 h2 => (hg k h1 h2).1)]; exact u.sa
    · rw [part_at _ _ _ hi]; exact (hg _ (by omega) (by omega)).2.2
  refine (sortRow hrow hpn (by omega) N.h1 N.h2).mono ?_
  rintro e w1 ⟨rfl, d', hc1, hr1, hp1, hs1⟩
  refine ⟨rfl, ?_⟩
  have hpm := hp1.2.2
  rw [Sort.extract_toList _ _ _ (by rw [hr1.size]; omega), Sort.extract_toList _ _ _ (by rw [part_size]; omega), Nat.sub_zero] at hpm
  have hinj := (perm_maps hpm (fun i j h1 h2 h3 => by
    rw [part_at _ _ _ h1, part_at _ _ _ h2] at h3
    have := a.pm.inj _ _ (by omega) (by omega) h3
    omega)).2.2
  have hb2 := N.b1; have hb3 := N.b2; have hb4 := N.b3
  have hle := le_of_sorted hs1
  refine (updateGroups_any hr1 hpn (by omega) N.h1 N.h2 N.h3 B0 ⟨hb2, hb3, hb4, Nat.le_trans hB hc1.size⟩ ?_ ?_ hle (fun i j h1 h2 h3 => hinj i j h1 h2 h3) hsz).mono ?_
  · obtain ⟨m, xs, ho⟩ := ho
    exact ⟨m, xs, own_below ho hc1 (fun i hi e => by have := (ho.lt i hi).1; omega)⟩
  · intro x hx
    have := a.gp.small a.pm x hx
    omega
  · rintro e w2 ⟨rfl, buf', I', S', hc2, ho2, u2, sp⟩
    refine ⟨rfl, I', S', pseg p pi d', ⟨⟨pi, sz, cap, buf', u2, ho2⟩, (hc.trans hc1 (fun i _ e => Or.inr (Or.inr (Or.inl e)))).trans hc2 (fun i _ e => e), Nat.le_trans hB (Nat.le_trans hc1.size hc2.size)⟩, ?_⟩
    exact a.split hsz hpn hg hr (part p pi sz) d' (fun i hi => part_at _ _ _ hi) hr1.size (part_size _ _ _) hp1 hle sp

/-- A row of places that tells the suffixes in their order. -/
structure SufArr (s : List UInt8) (n : Nat) (p : Nat → Nat) : Prop where
  pm : Pm n p
  ord : ∀ j k, j < k → k < n → s.drop (p j) < s.drop (p k)

/-- The last loop: below i the places are laid. -/
def Inv1 (_n : Nat) (I S : Nat → Int) (i : Nat) : Prop := ∀ j, j < i → ∀ q : Nat, I j = q → S q = j

theorem Inv1.next {n : Nat} {I S : Nat → Int} {p : Nat → Nat} {i : Nat} (h : Inv1 n I S i) (pm : Pm n p) (hf : ∀ k, k < n → I (p k) = k) (hi : i < n) {q : Nat} (hq : I i = q) : Inv1 n I (upd S q i) (i + 1) := by
  intro j hj q' hq'
  by_cases e : j = i
  · subst e
    obtain rfl : q = q' := by omega
    exact upd_at _ _ _
  · have hj' : j < i := by omega
    rw [upd_ne (fun e2 => e (by
      obtain ⟨k, hk, rfl⟩ := pm.sur j (by omega)
      obtain ⟨k', hk', rfl⟩ := pm.sur i hi
      have h1 := hf k hk
      have h2 := hf k' hk'
      rw [show k = k' by omega]))]
    exact h j hj' q' hq'

theorem Inv1.fin {n : Nat} {I S : Nat → Int} {p : Nat → Nat} (h : Inv1 n I S n) (pm : Pm n p) (hf : ∀ k, k < n → I (p k) = k) : ∀ k, k < n → S k = p k := fun k hk => h (p k) (pm.lt k hk) k (hf k hk)

set_option linter.unusedSimpArgs false in
set_option linter.unusedVariables false in
set_option maxHeartbeats 4000000 in
set_option maxRecDepth 100000 in
theorem qsuf_any (s : List UInt8) (A : Option Addr) (c : Nat) (w : World) (h : Reads w (fun i => i < w.heap.size) 1 A s.length (bts s)) (hn : s.length ≤ 100000) :
    Calls Try.prog 15 #[.slice A s.length c] w fun e w' => ∃ p : Nat → Nat, e = .returned (.slice (some ⟨w.heap.size + 1, 0, none⟩) s.length s.length) ∧ Below w.heap.size w w' ∧ Blk w' (w.heap.size + 1) 3 (arr s.length (fun k => (p k : Int))) ∧ SufArr s s.length p := by
  have H := hide h
  have HF := hide (firstByte_any s A c w h (by omega))
  clear h
  go_enter Try.func15, Try.ntmps15
  go_wp2_with fail
  refine HF.out.mono ?_
  rintro _ w1 ⟨p0, rfl, hb1, hsz1, hblk1, hpm1, hmono1⟩
  by_cases h2 : s.length < 2
  · have HX : Hid (Below w.heap.size w w1 ∧ Blk w1 (w.heap.size + 1) 3 (arr s.length (fun k => (p0 k : Int))) ∧ SufArr s s.length p0) := hide ⟨hb1, hblk1, hpm1, fun j k h1 h3 => by omega⟩
    clear hb1 hblk1 hpm1 hmono1 HF
    go_wp2
    go_ret
    exact ⟨p0, rfl, HX.out.1, HX.out.2.1, HX.out.2.2⟩
  · obtain ⟨m, hm⟩ : ∃ m, s.length = m + 1 := ⟨s.length - 1, by omega⟩
    rw [hm] at hblk1 hpm1 hmono1 hn H ⊢
    have HI := hide (initGroups_any s m hm A c (w.heap.size + 1) p0 w1 ((H.out.below hb1).more (fun i hi hk => by omega)) (by omega) hblk1 hpm1 hmono1)
    have HB1 := hide hb1
    clear hb1 hblk1 hpm1 hmono1 HF
    generalize hgg : w.heap.size + 1 = g at *
    rw [hsz1] at HI
    go_wp2_with fail
    refine HI.out.mono ?_
    rintro _ w2 ⟨S0, I0, p1, rfl, hc2, hib2, hsa2, hd2⟩
    have hib := hib2.lt
    have N : Hid (Qn w2.heap.size g (w.heap.size + 2 + 2) (w2.heap.size + 1)) := hide ⟨by omega, by omega, by omega, by omega, by omega, by omega⟩
    have HB2 : Hid (Below w.heap.size w w2) := hide (HB1.out.trans (hc2.below (by omega) (fun i hi => by omega)))
    generalize hsb : w2.heap.size = sb at *
    generalize hii : w.heap.size + 2 + 2 = ib at *
    have HQ : Hid (∃ (h : Nat) (I S : Nat → Int) (p : Nat → Nat), Qm sb g ib (m + 1) h I S (w2.alloc (.cells #[.slice (some ⟨g, 0, none⟩) (m + 1) (m + 1), .slice (some ⟨ib, 0, none⟩) (m + 1) (m + 1), .int .i64 1, .slice none 0 0] 41)) (sb + 1) (w2.alloc (.cells #[.slice (some ⟨g, 0, none⟩) (m + 1) (m + 1), .slice (some ⟨ib, 0, none⟩) (m + 1) (m + 1), .int .i64 1, .slice none 0 0] 41)) ∧ Hd s (m + 1) S I p h ∧ 1 ≤ h ∧ h ≤ 4 * (m + 1) ∧ 4 * (m + 1) + 1 - h < 4 * (m + 1) + 1) :=
      hide ⟨1, I0, S0, p1, ⟨⟨0, m + 1, m + 1, _, ⟨Blk.new_ w2 41 _ hsb, hib2.alloc _, hsa2.alloc _⟩, 0, [], World.ownsRow_nil _ _ _ _⟩, Chg.refl _ _, by simp; omega⟩, hd2, by omega, by omega, by omega⟩
    clear hib2 hsa2 hd2 hc2 HI
    go_wp2
    have HB3 : Hid (Below w.heap.size w (w2.alloc (.cells #[.slice (some ⟨g, 0, none⟩) (m + 1) (m + 1), .slice (some ⟨ib, 0, none⟩) (m + 1) (m + 1), .int .i64 1, .slice none 0 0] 41))) := hide (HB2.out.alloc (by have := HB2.out.size; omega) _)
    generalize w2.alloc (.cells #[.slice (some ⟨g, 0, none⟩) (m + 1) (m + 1), .slice (some ⟨ib, 0, none⟩) (m + 1) (m + 1), .int .i64 1, .slice none 0 0] 41) = W3 at *
    have hlow : w.heap.size ≤ g ∧ w.heap.size ≤ sb ∧ w.heap.size ≤ ib := ⟨by omega, by have := HB2.out.size; omega, by omega⟩
    have HLOW := hide hlow
    have HM := hide hm
    have HG9 : Hid (w.heap.size + 1 = g) := hide hgg
    clear hgg hsb hii hib hsz1 hlow hm HB1 HB2 H h2
    go_loopg [] (4 * (m + 1) + 1) (fun gk wr => Hid (∃ (h : Nat) (I S : Nat → Int) (p : Nat → Nat), Qm sb g ib (m + 1) h I S W3 (sb + 1) wr ∧ Hd s (m + 1) S I p h ∧ 1 ≤ h ∧ h ≤ 4 * (m + 1) ∧ 4 * (m + 1) + 1 - h < gk))
    case atStart => exact HQ
    case round =>
      obtain ⟨h, I, S, p, hq, hd, hh1, hh2, hgk⟩ := hrel.out
      clear hrel HQ
      have c0 := hq.sa.icell (i := 0) (by omega)
      by_cases hfin : S 0 ≤ -((m : Int) + 1)
      · have hall := hd.fin (by omega) (by omega)
        have hsm := hd.gp.small hd.pm
        have HL : Hid (Hd s (m + 1) S I p h) := hide hd
        have HALL := hide hall
        have HSM := hide hsm
        have HQ : Hid (∃ S' : Nat → Int, Qm sb g ib (m + 1) h I S' W3 (sb + 1) wr ∧ Inv1 (m + 1) I S' 0) := hide ⟨S, hq, fun j hj => absurd hj (by omega)⟩
        generalize S 0 = s0 at c0 hfin
        clear hq hd hall hsm
        go_wp2
        go_loopw [91] (fun s91 wr => ∃ i : Nat, s91 = .int .i64 i ∧ i ≤ m + 1 ∧ Hid (∃ S' : Nat → Int, Qm sb g ib (m + 1) h I S' W3 (sb + 1) wr ∧ Inv1 (m + 1) I S' i)) (fun s91 _ => m + 1 - (intOf s91).toNat)
        case atStart => exact ⟨0, rfl, by omega, HQ⟩
        case round =>
          obtain ⟨i, rfl, hi, HX⟩ := hrel
          clear HQ c0
          obtain ⟨S', hq, hinv⟩ := HX.out
          clear HX
          by_cases hlt : i < m + 1
          · have ci := hq.inv.icell hlt
            obtain ⟨q, hqi⟩ : ∃ q : Nat, I i = q := ⟨(I i).toNat, by have := HSM.out i hlt; omega⟩
            have hqn : q < m + 1 := by have := HSM.out i hlt; omega
            rw [hqi] at ci
            have c1 := hq.sa.icell hqn
            have f1 := hq.sa.frozen q
            have HF : Hid (∃ S' : Nat → Int, Qm sb g ib (m + 1) h I S' W3 (sb + 1) (wr.setCell ⟨g, q, none⟩ (.int .i64 (i : Int))) ∧ Inv1 (m + 1) I S' (i + 1)) := hide ⟨_, hq.setS N.out q i, hinv.next HL.out.pm HALL.out hlt hqi⟩
            clear hq hinv hqi
            go_wp2
            exact ⟨⟨i + 1, by go_num, by omega, HF⟩, by simp [intOf]; omega⟩
          · obtain rfl : i = m + 1 := by omega
            have hS := hinv.fin HL.out.pm HALL.out
            have HF : Hid (Below w.heap.size w wr ∧ Blk wr g 3 (arr (m + 1) (fun k => (p k : Int))) ∧ SufArr s (m + 1) p) := by
              have hB : Below w.heap.size W3 wr := hq.chg.below HB3.out.size (fun i hi => by have := HLOW.out; omega)
              refine hide ⟨HB3.out.trans hB, by rw [← arr_congr hS]; exact hq.sa, HL.out.pm, fun j k h1 h2 => ?_⟩
              exact HL.out.vl.ord _ _ (HL.out.pm.lt j (by omega)) (HL.out.pm.lt k h2) (by rw [HALL.out j (by omega), HALL.out k h2]; omega)
            clear hq hinv hS
            go_wp2
            go_ret
            rw [HM.out, ← HG9.out]
            exact ⟨p, rfl, HF.out.1, by rw [HG9.out]; exact HF.out.2.1, HF.out.2.2⟩
      · have hfl : h < 2 * (m + 1) := by
          rcases hd.flag with h1 | h1
          · exact h1
          · omega
        have HST : Hid (∃ (I S : Nat → Int) (p : Nat → Nat), Qm sb g ib (m + 1) h I S W3 (sb + 1) wr ∧ Ps s (m + 1) S I p h 0 0) := hide ⟨I, S, p, hq, hd.start⟩
        clear hq hd
        generalize S 0 = s0 at c0 hfin
        clear S I p
        go_wp2
        go_loopw [6, 7] (fun s6 s7 wr => ∃ (pi mm : Nat) (x : Int), s6 = .int .i64 pi ∧ s7 = .int .i64 x ∧ x = -(mm : Int) ∧ pi ≤ m + 1 ∧ Hid (∃ (I S : Nat → Int) (p : Nat → Nat), Qm sb g ib (m + 1) h I S W3 (sb + 1) wr ∧ Ps s (m + 1) S I p h pi mm)) (fun s6 _ _ => m + 1 - (intOf s6).toNat)
        case atStart => exact ⟨0, 0, 0, rfl, rfl, by simp, by omega, HST⟩
        case round =>
          obtain ⟨pi, mm, x, rfl, rfl, hx, hpi, HX⟩ := hrel
          clear HST c0
          obtain ⟨I, S, p, hq, hps⟩ := HX.out
          clear HX
          have hmp := hps.mpi
          by_cases hlt : pi < m + 1
          · have c0 := hq.sa.icell hlt
            by_cases hneg : S pi < 0
            · obtain ⟨l, hl, hl0, hln, hps2⟩ := hps.run hlt hneg
              rw [hl] at c0
              have HF : Hid (∃ (I S : Nat → Int) (p : Nat → Nat), Qm sb g ib (m + 1) h I S W3 (sb + 1) wr ∧ Ps s (m + 1) S I p h (pi + l) (mm + l)) := hide ⟨I, S, p, hq, hps2⟩
              have HX := hide hx
              have hx1 : -(m : Int) - 1 ≤ x ∧ x ≤ 0 := by omega
              clear hq hps hps2 hneg hl hx
              go_wp2
              exact ⟨⟨pi + l, mm + l, x + -(l : Int), by go_num, rfl, by have := HX.out; omega, by omega, HF⟩, by simp [intOf]; omega⟩
            · obtain ⟨e, he1, he2, he3, he4, he5, he6⟩ := hps.grp hlt hneg
              have hpe := (he5 pi (Nat.le_refl _) he1).2.2
              rw [he4] at c0
              have HQ := hide hq
              have HPS := hide hps
              have HE := hide (And.intro he3 (And.intro he4 (And.intro he5 he6)))
              clear hq hps hneg he3 he4 he5 he6
              generalize hx0 : p pi = x0 at c0 hpe
              have HX0 := hide hx0
              clear hx0
              go_upto_if 48 with fail
              go_cut [7] from 31 to 73 (fun v7 wx => v7 = .int .i64 0 ∧ Hid (∃ S' : Nat → Int, Qm sb g ib (m + 1) h I S' W3 (sb + 1) wx ∧ Ps s (m + 1) S' I p h pi 0 ∧ ∀ k, pi ≤ k → S' k = S k))
              case first =>
                by_cases hm0 : mm = 0
                · subst hm0
                  have hx0 : x = 0 := by omega
                  clear hx
                  subst hx0
                  go_wp2
                  go_meet
                  case rel => exact ⟨rfl, hide ⟨S, HQ.out, HPS.out, fun _ _ => rfl⟩⟩
                · have hx0 : (x == 0) = false := by rw [beq_eq_false_iff_ne]; omega
                  obtain ⟨q, hq⟩ : ∃ q, q = pi - mm := ⟨_, rfl⟩
                  have hqx : (pi : Int) + x = (q : Int) := by omega
                  have hqn : q < m + 1 := by omega
                  have c1 := HQ.out.sa.icell hqn
                  have f1 := HQ.out.sa.frozen q
                  have hF : Hid (∃ S' : Nat → Int, Qm sb g ib (m + 1) h I S' W3 (sb + 1) (wr.setCell ⟨g, q, none⟩ (.int .i64 x)) ∧ Ps s (m + 1) S' I p h pi 0 ∧ ∀ k, pi ≤ k → S' k = S k) := by
                    have h9 := HPS.out.tell (by omega) (by omega) (by omega)
                    rw [← hq, ← hx] at h9
                    exact hide ⟨_, HQ.out.setS N.out q x, h9, fun k hk => upd_ne (by omega)⟩
                  have hx1 : -(m : Int) - 1 ≤ x ∧ x < 0 := by omega
                  have hx2 : (x != 0) = true := by rw [bne_iff_ne]; omega
                  have hx3 : x ≠ 0 := by omega
                  clear hq hx
                  go_wp2
                  go_meet
                  case rel => exact ⟨rfl, hF⟩
              case rest =>
                obtain ⟨rfl, HR⟩ := hcut
                clear HQ HPS c0 hx hmp
                obtain ⟨S', hq', hps', hsame⟩ := HR.out
                clear HR
                obtain ⟨sz, hsz⟩ : ∃ sz, e + 1 = pi + sz := ⟨e + 1 - pi, by omega⟩
                have hpl : x0 < m + 1 := by omega
                have ci := hq'.inv.icell hpl
                have hie : I x0 = e := by rw [← HX0.out]; exact HE.out.1
                rw [hie] at ci
                obtain ⟨hc3, hb3, buf, u3, ho3⟩ := hq'.setA N.out pi sz (m + 1 - pi)
                have HG := hide (group_any N.out (by omega) u3 ho3 hc3 hb3 hps' (by omega) (by omega) (fun k h1 h2 => by
                  have h9 := HE.out.2.2.1 k h1 (by omega)
                  rw [hsame k h1]
                  exact ⟨h9.1, by rw [h9.2.1]; omega, h9.2.2⟩) (by rw [← hsz]; exact HE.out.2.2.2.congr (fun k h1 h2 => ⟨hsame k (by omega), rfl, rfl⟩)))
                obtain ⟨lo9, sz9, cap9, buf9, u9', _⟩ := hq'.um
                have c2 := u9'.st.cell 0
                have f2 := u9'.st.frozen 0
                simp at c2
                clear hc3 hb3 u3 ho3 hq' hps' hsame hie u9'
                go_wp2_with fail
                refine HG.out.mono ?_
                rintro _ w5 ⟨rfl, h5⟩
                have H5 := hide h5
                clear h5 HG c2 f2 ci
                go_wp2_with fail
                refine H5.out.mono ?_
                rintro _ w6 ⟨rfl, I6, S6, p6, hq6, hps6⟩
                have HF : Hid (∃ (I S : Nat → Int) (p : Nat → Nat), Qm sb g ib (m + 1) h I S W3 (sb + 1) w6 ∧ Ps s (m + 1) S I p h (pi + sz) 0) := hide ⟨I6, S6, p6, hq6, hps6⟩
                clear hq6 hps6 H5
                go_wp2
                exact ⟨⟨pi + sz, 0, 0, by go_num, rfl, by simp, by omega, HF⟩, by simp [intOf]; omega⟩
          · obtain rfl : pi = m + 1 := by omega
            have hdn := hps.done (by omega)
            have h4 : 4 * (m + 1) + 1 - 2 * h < 4 * (m + 1) + 1 - 2 * h + 1 := by omega
            by_cases hm0 : mm = 0
            · subst hm0
              have hx0 : x = 0 := by omega
              clear hx
              subst hx0
              rw [if_pos rfl] at hdn
              obtain ⟨lo9, sz9, cap9, buf9, u9', _⟩ := hq.um
              have c2 := u9'.st.cell 2
              have f2 := u9'.st.frozen 2
              simp at c2
              have HF : Hid (∃ (h' : Nat) (I S : Nat → Int) (p : Nat → Nat), Qm sb g ib (m + 1) h' I S W3 (sb + 1) (wr.setCell ⟨sb, 2, none⟩ (.int .i64 ((h : Int) * 2))) ∧ Hd s (m + 1) S I p h' ∧ 1 ≤ h' ∧ h' ≤ 4 * (m + 1) ∧ 4 * (m + 1) + 1 - h' < 4 * (m + 1) + 1 - 2 * h + 1) := by
                refine hide ⟨2 * h, I, S, p, ?_, hdn, by omega, by omega, h4⟩
                rw [show (h : Int) * 2 = ((2 * h : Nat) : Int) by omega]
                exact hq.setH N.out (2 * h)
              clear hq hps hdn u9'
              go_wp2
              go_roundg (4 * (m + 1) + 1 - 2 * h + 1)
              case measure => omega
              case rel => exact HF
            · rw [if_neg hm0] at hdn
              obtain ⟨q, hqe⟩ : ∃ q, q = m + 1 - mm := ⟨_, rfl⟩
              have hqx : (m : Int) + 1 + x = (q : Int) := by omega
              have hqn : q < m + 1 := by omega
              rw [← hqe, ← hx] at hdn
              have c1 := hq.sa.icell hqn
              have f1 := hq.sa.frozen q
              have hq2 := hq.setS N.out q x
              obtain ⟨lo9, sz9, cap9, buf9, u9', _⟩ := hq2.um
              obtain ⟨lo8, sz8, cap8, buf8, u8', _⟩ := hq.um
              have c2 := u8'.st.cell 2
              have f2 := u8'.st.frozen 2
              simp at c2
              have n1 : sb ≠ g := N.out.h1
              have n2 : g ≠ sb := Ne.symm n1
              have HF : Hid (∃ (h' : Nat) (I S : Nat → Int) (p : Nat → Nat), Qm sb g ib (m + 1) h' I S W3 (sb + 1) ((wr.setCell ⟨g, q, none⟩ (.int .i64 x)).setCell ⟨sb, 2, none⟩ (.int .i64 ((h : Int) * 2))) ∧ Hd s (m + 1) S I p h' ∧ 1 ≤ h' ∧ h' ≤ 4 * (m + 1) ∧ 4 * (m + 1) + 1 - h' < 4 * (m + 1) + 1 - 2 * h + 1) := by
                refine hide ⟨2 * h, I, _, p, ?_, hdn, by omega, by omega, h4⟩
                rw [show (h : Int) * 2 = ((2 * h : Nat) : Int) by omega]
                exact hq2.setH N.out (2 * h)
              have hx2 : (x != 0) = true := by rw [bne_iff_ne]; omega
              have hx0 : (x == 0) = false := by rw [beq_eq_false_iff_ne]; omega
              have hx1 : -(m : Int) - 1 ≤ x ∧ x < 0 := by omega
              clear hq hps hdn u9' u8' hq2 hx hqe
              go_wp2
              go_roundg (4 * (m + 1) + 1 - 2 * h + 1)
              case measure => omega
              case rel => exact HF
end Go.Proofs.Ytaihafoopoaahaa
