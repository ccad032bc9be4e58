/- A vector of bits in memory; the walks of its small methods. No condition but sizes. -/
import Derived.Test.YtammpllfmbmdmaaGw
import Derived.Test.YtammpllfmbmdmaaVb
namespace Go.Proofs.Ytammpllfmbmdmaa
open Go.RowKit

abbrev bytes (D : List Nat) : List Value := D.map (fun b : Nat => Value.int .u8 (b : Int))
theorem info5 : (Try.prog.info? 5).map (fun i => (i.zero, i.size, i.bytes)) = some (some (.int .u8 0), 1, 1) := by kernel_rfl

/-- A vector of bits in block g: its bytes D lie in a row v of the call's own. -/
structure BV (w : World) (B g : Nat) (v : Value) (n : Nat) (D : List Nat) : Prop where
  blk : Blk w g 121 #[v, .int .i64 n]
  row : w.ownsRow B 5 1 v D.length (bytes D)
  lt : ∀ b ∈ D, b < 256

theorem BV.chg {w w' : World} {B g : Nat} {v : Value} {n : Nat} {D : List Nat} {S : Nat → Prop} (h : BV w B g v n D) (hc : Chg S w w') (h1 : ¬ S g) (h2 : ∀ i, v.ownBlock = some i → ¬ S i) : BV w' B g v n D := ⟨h.blk.chg hc h1, own_chg h.row hc h2, h.lt⟩

section
variable (B g : Nat) (v : Value) (n : Nat) (D : List Nat) (w : World)

theorem bv_length (h : BV w B g v n D) : Calls Try.prog 57 #[.pointer (some ⟨g, 0, none⟩)] w fun e w' => e = .returned (.int .i64 n) ∧ w' = w := by
  obtain ⟨c0, c1, _, _⟩ := blk_two h.blk
  clear h
  go_enter Try.func57, Try.ntmps57
  go_wp2
  go_ret
  exact ⟨rfl, rfl⟩

theorem bv_bytes (h : BV w B g v n D) : Calls Try.prog 60 #[.pointer (some ⟨g, 0, none⟩)] w fun e w' => e = .returned v ∧ w' = w := by
  obtain ⟨c0, c1, _, _⟩ := blk_two h.blk
  obtain ⟨A, c, rfl, _⟩ := own_reads h.row
  clear h
  go_enter Try.func60, Try.ntmps60
  go_wp2
  go_ret
  exact ⟨rfl, rfl⟩

theorem bv_assert (z : Int) (h : BV w B g v n D) (h0 : 0 ≤ z) (h1 : z < n) : Calls Try.prog 91 #[.pointer (some ⟨g, 0, none⟩), .int .i64 z] w fun e w' => e = .returned (.tuple #[]) ∧ w' = w := by
  obtain ⟨c0, c1, _, _⟩ := blk_two h.blk
  clear h
  go_enter Try.func91, Try.ntmps91
  go_wp2
  go_end0
  exact ⟨rfl, rfl⟩

theorem bv_blen (h : BV w B g v n D) (hn : n ≤ 1099511627776) : Calls Try.prog 90 #[.pointer (some ⟨g, 0, none⟩)] w fun e w' => e = .returned (.int .i64 ((n + 7) / 8 : Nat)) ∧ w' = w := by
  obtain ⟨c0, c1, _, _⟩ := blk_two h.blk
  clear h
  go_enter Try.func90, Try.ntmps90
  go_wp2
  go_ret
  exact ⟨ret_int (by omega), rfl⟩

/-- A byte of the vector, as the walks read and write it. -/
theorem BV.at_ {B g : Nat} {v : Value} {n : Nat} {D : List Nat} {w : World} (h : BV w B g v n D) (k : Nat) (hk : k < D.length) : ∃ r cap, v = .slice (some ⟨r, 0, none⟩) D.length cap ∧ D.length ≤ cap ∧ cap ≤ 9223372036854775807 ∧ r ≠ g ∧ w.cell? ⟨r, k, none⟩ = some (.int .u8 ((D.getD k 0 : Nat) : Int)) ∧ w.frozen? ⟨r, k, none⟩ = false ∧ D.getD k 0 < 256 := by
  obtain ⟨r, cap, rfl, _, _⟩ := h.row.form (by omega)
  have hc := own_cap h.row
  unfold maxLen at hc
  refine ⟨r, cap, rfl, hc.1, by omega, fun e => ?_, ?_, h.row.frozenAt k, ?_⟩
  · obtain ⟨cs, hcs⟩ := own_blk h.row rfl
    exact hcs.ne_ h.blk (by decide) e
  · rw [h.row.cellAt k (by omega), List.getElem?_map, List.getElem?_eq_getElem hk]
    simp [hk]
  · have : D.getD k 0 = D[k] := by simp [hk]
    rw [this]; exact h.lt _ (List.getElem_mem hk)


theorem BV.store {B g r cap m n : Nat} {D : List Nat} {w : World} (h : BV w B g (.slice (some ⟨r, 0, none⟩) m cap) n D) (hm : m = D.length) (k b' : Nat) (hb : b' < 256) (hrg : r ≠ g) : BV (w.setCell ⟨r, k, none⟩ (.int .u8 (b' : Int))) B g (.slice (some ⟨r, 0, none⟩) m cap) n (D.set k b') := by
  subst hm
  refine ⟨h.blk.far (p := ⟨r, k, none⟩) (fun e => hrg e.symm) _, ?_, fun x hx => ?_⟩
  · have h1 := (h.row.stored k (.int .u8 (b' : Int))).1
    rw [List.length_set]
    have e : bytes (D.set k b') = (bytes D).set k (.int .u8 (b' : Int)) := by simp [bytes, List.map_set]
    rw [e]; exact h1
  · rcases List.mem_or_eq_of_mem_set hx with hx | rfl
    · exact h.lt x hx
    · exact hb

/-- Behind a method that stores one byte. -/
def Byted (B g : Nat) (v : Value) (n : Nat) (D : List Nat) (k : Nat) (Q : Nat → Prop) (w : World) (e : Ending) (w' : World) : Prop :=
  e = .returned (.tuple #[]) ∧ ∃ b', Q b' ∧ BV w' B g v n (D.set k b') ∧ Chg (fun i => v.ownBlock = some i) w w'

set_option maxHeartbeats 1000000 in
set_option maxRecDepth 100000 in
theorem bv_set1 (i k o : Nat) (hko : i = 8 * k + o) (ho : o < 8) (h : BV w B g v n D) (hi : i < n) (hn : n ≤ 100000) (hD : k < D.length) :
    Calls Try.prog 53 #[.pointer (some ⟨g, 0, none⟩), .int .u8 1, .int .i64 i] w (Byted B g v n D k (fun b' => bitsB b' = (bitsB (D.getD k 0)).set o 1) w) := by
  obtain ⟨c0, c1, _, _⟩ := blk_two h.blk
  have hc := bv_assert B g v n D w i h (by omega) (by omega)
  obtain ⟨r, cap, rfl, hcap1, hcap2, hrg, hx, hfx, hlt⟩ := h.at_ k hD
  have hq : (i : Int) / 8 = k := by omega
  have hr : (i : Int) % 8 = o := by omega
  have hk2 : k ≤ 100000 := by omega
  obtain ⟨b', hb1, hb2⟩ := byte_set1 ⟨D.getD k 0, hlt⟩ ⟨o, ho⟩
  have HB1 := hide hb1
  have HB2 := hide hb2
  have H := hide h
  clear hb1 hb2 h
  generalize hgb : D.getD k 0 = b at *
  have HGB := hide hgb
  clear hgb
  generalize hgm : D.length = m at *
  have HGM := hide hgm
  clear hgm hko
  go_enter Try.func53, Try.ntmps53
  go_wp2_with fail
  refine hc.mono ?_
  rintro e w1 ⟨rfl, rfl⟩
  go_wp2
  go_end0
  refine ⟨rfl, b'.val, HB2.out, ?_, ?_⟩
  · have e1 := HB1.out
    rw [e1]
    exact BV.store H.out HGM.out.symm k b'.val b'.isLt hrg
  · exact (Chg.refl (fun i => (Value.slice (some ⟨r, 0, none⟩) m cap).ownBlock = some i) w1).setCell (p := ⟨r, k, none⟩) (fun _ => rfl) _

set_option maxHeartbeats 1000000 in
set_option maxRecDepth 100000 in
theorem bv_set0 (i k o : Nat) (hko : i = 8 * k + o) (ho : o < 8) (h : BV w B g v n D) (hi : i < n) (hn : n ≤ 100000) (hD : k < D.length) :
    Calls Try.prog 53 #[.pointer (some ⟨g, 0, none⟩), .int .u8 0, .int .i64 i] w (Byted B g v n D k (fun b' => bitsB b' = (bitsB (D.getD k 0)).set o 0) w) := by
  obtain ⟨c0, c1, _, _⟩ := blk_two h.blk
  have hc := bv_assert B g v n D w i h (by omega) (by omega)
  obtain ⟨r, cap, rfl, hcap1, hcap2, hrg, hx, hfx, hlt⟩ := h.at_ k hD
  have hq : (i : Int) / 8 = k := by omega
  have hr : (i : Int) % 8 = o := by omega
  have hk2 : k ≤ 100000 := by omega
  obtain ⟨b', hb1, hb2⟩ := byte_set0 ⟨D.getD k 0, hlt⟩ ⟨o, ho⟩
  have HB1 := hide hb1
  have HB2 := hide hb2
  have H := hide h
  clear hb1 hb2 h
  generalize hgb : D.getD k 0 = b at *
  have HGB := hide hgb
  clear hgb
  generalize hgm : D.length = m at *
  have HGM := hide hgm
  clear hgm hko
  go_enter Try.func53, Try.ntmps53
  go_wp2_with fail
  refine hc.mono ?_
  rintro e w1 ⟨rfl, rfl⟩
  go_wp2
  go_end0
  refine ⟨rfl, b'.val, HB2.out, ?_, ?_⟩
  · have e1 := HB1.out
    rw [e1]
    exact BV.store H.out HGM.out.symm k b'.val b'.isLt hrg
  · exact (Chg.refl (fun i => (Value.slice (some ⟨r, 0, none⟩) m cap).ownBlock = some i) w1).setCell (p := ⟨r, k, none⟩) (fun _ => rfl) _

theorem bv_set (x : Int) (hx : x = 0 ∨ x = 1) (i : Nat) (h : BV w B g v n D) (hi : i < n) (hn : n ≤ 100000) (hD : i / 8 < D.length) :
    Calls Try.prog 53 #[.pointer (some ⟨g, 0, none⟩), .int .u8 x, .int .i64 i] w (Byted B g v n D (i / 8) (fun b' => bitsB b' = (bitsB (D.getD (i / 8) 0)).set (i % 8) x) w) := by
  rcases hx with rfl | rfl
  · exact bv_set0 B g v n D w i (i / 8) (i % 8) (by omega) (by omega) h hi hn hD
  · exact bv_set1 B g v n D w i (i / 8) (i % 8) (by omega) (by omega) h hi hn hD

set_option maxHeartbeats 1000000 in
set_option maxRecDepth 100000 in
theorem bv_element (i : Nat) (h : BV w B g v n D) (hi : i < n) (hn : n ≤ 100000) (hD : i / 8 < D.length) :
    Calls Try.prog 56 #[.pointer (some ⟨g, 0, none⟩), .int .i64 i] w fun e w' => e = .returned (.int .u8 ((bitsB (D.getD (i / 8) 0)).getD (i % 8) 0)) ∧ w' = w := by
  obtain ⟨c0, c1, _, _⟩ := blk_two h.blk
  have hc := bv_assert B g v n D w i h (by omega) (by omega)
  obtain ⟨r, cap, rfl, hcap1, hcap2, hrg, hx, hfx, hlt⟩ := h.at_ (i / 8) hD
  have hk2 : i / 8 ≤ 100000 := by omega
  have ho : i % 8 < 8 := by omega
  have hq : (i : Int) / 8 = (i / 8 : Nat) := by omega
  have hr : (i : Int) % 8 = (i % 8 : Nat) := by omega
  generalize i / 8 = k at *
  generalize i % 8 = o at *
  generalize D.getD k 0 = b at *
  generalize D.length = m at *
  clear h
  go_enter Try.func56, Try.ntmps56
  go_wp2_with fail
  refine hc.mono ?_
  rintro e w1 ⟨rfl, rfl⟩
  go_wp2
  go_ret
  exact ⟨ret_int (byte_get ⟨b, hlt⟩ ⟨o, ho⟩), rfl⟩

/-- A byte behind a front part. -/
theorem row_mid {r cap m : Nat} {P E : List Nat} {b : Nat} {w : World} (h : w.ownsRow B 5 1 (.slice (some ⟨r, 0, none⟩) m cap) m (bytes (P ++ b :: E))) : w.cell? ⟨r, P.length, none⟩ = some (.int .u8 (b : Int)) ∧ w.frozen? ⟨r, P.length, none⟩ = false ∧
    ∀ b' : Nat, (w.setCell ⟨r, P.length, none⟩ (.int .u8 (b' : Int))).ownsRow B 5 1 (.slice (some ⟨r, 0, none⟩) m cap) m (bytes (P ++ b' :: E)) := by
  have hl := h.1
  simp at hl
  refine ⟨?_, h.frozenAt _, fun b' => ?_⟩
  · rw [h.cellAt P.length (by omega)]; simp
  · have h1 := (h.stored P.length (.int .u8 (b' : Int))).1
    have e : (bytes (P ++ b :: E)).set P.length (.int .u8 (b' : Int)) = bytes (P ++ b' :: E) := by simp [bytes, List.set_append_right]
    rw [e] at h1; exact h1

set_option maxHeartbeats 1000000 in
set_option maxRecDepth 100000 in
theorem shh_nil (c : Nat) (A : Option Addr) (lc : Nat) : Calls Try.prog 92 #[.int .u8 c, .slice A 0 lc] w fun e w' => (∃ y, e = .returned (.int .u8 y)) ∧ w' = w := by
  go_enter Try.func92, Try.ntmps92
  go_wp2
  refine wp_loop_rounds 1 ?_
  rw [rounds_succ]
  go_wp2
  go_ret
  exact ⟨⟨_, rfl⟩, rfl⟩

set_option maxHeartbeats 1000000 in
set_option maxRecDepth 100000 in
theorem shh_cons (c : Nat) (hc : c < 2) (r cap m lc : Nat) (P E : List Nat) (hm : m ≤ 100000) (hE : ∀ b ∈ E, b < 256) (h : w.ownsRow B 5 1 (.slice (some ⟨r, 0, none⟩) m cap) m (bytes (P ++ E))) :
    Calls Try.prog 92 #[.int .u8 c, .slice (some ⟨r, P.length, none⟩) E.length lc] w fun e w' => (∃ y, e = .returned (.int .u8 y)) ∧ w'.ownsRow B 5 1 (.slice (some ⟨r, 0, none⟩) m cap) m (bytes (P ++ shH c E)) ∧ Chg (fun i => i = r) w w' := by
  have hl : P.length + E.length = m := by have := h.1; simpa using this
  have H := hide h
  have HE := hide hE
  obtain ⟨e, he⟩ : ∃ e, e = E.length := ⟨_, rfl⟩
  obtain ⟨p, hp⟩ : ∃ p, p = P.length := ⟨_, rfl⟩
  have hel : e ≤ 100000 := by omega
  have hpl0 : p ≤ 100000 := by omega
  rw [← he, ← hp]
  have HEL := hide he
  have HP := hide hp
  have hst : Hid (w.ownsRow B 5 1 (.slice (some ⟨r, 0, none⟩) m cap) m (bytes (P ++ (shH c (E.take 0) ++ E.drop 0)))) := h
  clear h hE he hl hp
  go_enter Try.func92, Try.ntmps92
  go_wp2
  go_loopw [0, 5, 6, 9] (fun v0 v5 v6 i wr => ∃ j : Nat, j ≤ e ∧ i = .int .i64 j ∧ v0 = .int .u8 (cyH c (E.take j) : Nat) ∧ Hid (wr.ownsRow B 5 1 (.slice (some ⟨r, 0, none⟩) m cap) m (bytes (P ++ (shH c (E.take j) ++ E.drop j)))) ∧ Hid (Chg (fun i => i = r) w wr)) (fun _ _ _ i _ => e - (intOf i).toNat)
  case atStart => exact ⟨0, by omega, rfl, rfl, hst, Chg.refl _ _⟩
  case round =>
    obtain ⟨j, hj, rfl, rfl, HR, HC⟩ := hrel
    by_cases hlt : j < e
    · have hjl : j < E.length := by rw [← HEL.out]; exact hlt
      obtain ⟨b, hb⟩ : ∃ b, b = E[j] := ⟨_, rfl⟩
      have hdr : E.drop j = b :: E.drop (j + 1) := by rw [hb]; exact List.drop_eq_getElem_cons hjl
      have htk : E.take (j + 1) = E.take j ++ [b] := by rw [hb]; exact List.take_succ_eq_append_getElem hjl
      have hb256 : b < 256 := by rw [hb]; exact HE.out _ (List.getElem_mem hjl)
      have hrow := HR.out
      rw [hdr, ← List.append_assoc] at hrow
      have hpl : (P ++ shH c (E.take j)).length = p + j := by rw [List.length_append, shH_len, List.length_take, ← HP.out]; omega
      obtain ⟨hcx, hfx, hset⟩ := row_mid B hrow
      rw [hpl] at hcx hfx hset
      have hcy : cyH c (E.take j) < 2 := cyH_lt _ _ (fun x hx => HE.out x (List.mem_of_mem_take hx)) hc
      obtain ⟨hk1, hk2⟩ := byte_h ⟨b, hb256⟩ ⟨cyH c (E.take j), hcy⟩
      have HK1 := hide hk1
      have HK2 := hide hk2
      have HSET := hide hset
      have HTK := hide htk
      have HDR := hide hdr
      generalize hcyd : cyH c (E.take j) = cy at *
      have HCYD := hide hcyd
      clear hk1 hk2 hset htk hdr hb hrow hpl hjl hcyd
      go_wp2
      go_roundw
      case measure => simp [intOf]; omega
      case rel =>
        refine ⟨j + 1, by omega, by go_num, ?_, ?_, ?_⟩
        · rw [HTK.out, cyH_snoc]
          exact congrArg (Value.int .u8) HK2.out
        · show World.ownsRow _ _ _ _ _ _ _
          have e1 := HK1.out
          rw [e1]
          have h1 := HSET.out (b * 2 % 256 + cy)
          rw [HTK.out, shH_append, HCYD.out]
          have e2 : P ++ ((shH c (E.take j) ++ shH cy [b]) ++ E.drop (j + 1)) = P ++ shH c (E.take j) ++ (b * 2 % 256 + cy) :: E.drop (j + 1) := by simp [shH]
          rw [e2]; exact h1
        · exact HC.out.setCell (p := ⟨r, p + j, none⟩) (fun _ => rfl) _
    · have hje : E.length ≤ j := by rw [← HEL.out]; omega
      have hfin : Hid (wr.ownsRow B 5 1 (.slice (some ⟨r, 0, none⟩) m cap) m (bytes (P ++ shH c E))) := by
        have h1 := HR.out
        rw [List.take_of_length_le hje, List.drop_eq_nil_of_le hje, List.append_nil] at h1
        exact h1
      clear hje
      go_wp2
      go_ret
      exact ⟨⟨_, rfl⟩, hfin.out, HC.out⟩

set_option maxHeartbeats 1000000 in
set_option maxRecDepth 100000 in
theorem shl_nil (A : Option Addr) (lc : Nat) : Calls Try.prog 93 #[.int .u8 0, .slice A 0 lc] w fun e w' => e = .returned (.int .u8 0) ∧ w' = w := by
  go_enter Try.func93, Try.ntmps93
  go_wp2
  refine wp_loop_rounds 1 ?_
  rw [rounds_succ]
  go_wp2
  go_ret
  exact ⟨rfl, rfl⟩

set_option maxHeartbeats 1000000 in
set_option maxRecDepth 100000 in
theorem shl_cons (r cap m lc : Nat) (P E : List Nat) (hm : m ≤ 100000) (hE : ∀ b ∈ E, b < 256) (h : w.ownsRow B 5 1 (.slice (some ⟨r, 0, none⟩) m cap) m (bytes (P ++ E))) :
    Calls Try.prog 93 #[.int .u8 0, .slice (some ⟨r, P.length, none⟩) E.length lc] w fun e w' => e = .returned (.int .u8 ((shL 0 E).2 : Nat)) ∧ w'.ownsRow B 5 1 (.slice (some ⟨r, 0, none⟩) m cap) m (bytes (P ++ (shL 0 E).1)) ∧ Chg (fun i => i = r) w w' := by
  have hl : P.length + E.length = m := by have := h.1; simpa using this
  have H := hide h
  have HE := hide hE
  obtain ⟨e, he⟩ : ∃ e, e = E.length := ⟨_, rfl⟩
  obtain ⟨p, hp⟩ : ∃ p, p = P.length := ⟨_, rfl⟩
  have hel : e ≤ 100000 := by omega
  have hpl0 : p ≤ 100000 := by omega
  rw [← he, ← hp]
  have HEL := hide he
  have HP := hide hp
  have hst : Hid (w.ownsRow B 5 1 (.slice (some ⟨r, 0, none⟩) m cap) m (bytes (P ++ (E.take e ++ (shL 0 (E.drop e)).1)))) := by
    rw [he, List.take_of_length_le (Nat.le_refl _), List.drop_eq_nil_of_le (Nat.le_refl _)]
    show World.ownsRow _ _ _ _ _ _ (bytes (P ++ (E ++ [])))
    rw [List.append_nil]; exact h
  have hst2 : Hid (((128 * (shL 0 (E.drop e)).2 : Nat) : Int) = 0) := by rw [he, List.drop_eq_nil_of_le (Nat.le_refl _)]; rfl
  clear h hE he hl hp
  go_enter Try.func93, Try.ntmps93
  go_wp2
  go_loopw [0, 5, 6] (fun v0 i v6 wr => ∃ j : Nat, j ≤ e ∧ i = .int .i64 ((j : Int) - 1) ∧ v0 = .int .u8 (128 * (shL 0 (E.drop j)).2 : Nat) ∧ Hid (wr.ownsRow B 5 1 (.slice (some ⟨r, 0, none⟩) m cap) m (bytes (P ++ (E.take j ++ (shL 0 (E.drop j)).1)))) ∧ Hid (Chg (fun i => i = r) w wr)) (fun _ i _ _ => (intOf i + 1).toNat)
  case atStart => exact ⟨e, by omega, rfl, congrArg (Value.int .u8) hst2.out.symm, hst, Chg.refl _ _⟩
  case round =>
    obtain ⟨j, hj, rfl, rfl, HR, HC⟩ := hrel
    rcases j with _ | j
    · have hfin : Hid (wr.ownsRow B 5 1 (.slice (some ⟨r, 0, none⟩) m cap) m (bytes (P ++ (shL 0 E).1))) := HR.out
      have hlt2 : (shL 0 E).2 < 2 := shL_c E 0 (by omega)
      rw [List.drop_zero]
      obtain ⟨cy, hcyd⟩ : ∃ cy, cy = (shL 0 E).2 := ⟨_, rfl⟩
      rw [← hcyd] at hlt2 ⊢
      have HCYD := hide hcyd
      clear hcyd
      go_wp2
      go_ret
      exact ⟨ret_int (by rw [← HCYD.out]), hfin.out, HC.out⟩
    · have hjl : j < E.length := by rw [← HEL.out]; omega
      obtain ⟨b, hb⟩ : ∃ b, b = E[j] := ⟨_, rfl⟩
      have hdr : E.drop j = b :: E.drop (j + 1) := by rw [hb]; exact List.drop_eq_getElem_cons hjl
      have htk : E.take (j + 1) = E.take j ++ [b] := by rw [hb]; exact List.take_succ_eq_append_getElem hjl
      have hb256 : b < 256 := by rw [hb]; exact HE.out _ (List.getElem_mem hjl)
      have hcy : (shL 0 (E.drop (j + 1))).2 < 2 := shL_c _ 0 (by omega)
      obtain ⟨cy, hcyd⟩ : ∃ cy, cy = (shL 0 (E.drop (j + 1))).2 := ⟨_, rfl⟩
      obtain ⟨R, hRd⟩ : ∃ R, R = (shL 0 (E.drop (j + 1))).1 := ⟨_, rfl⟩
      have hrow := HR.out
      rw [htk, ← hRd] at hrow
      rw [← hcyd] at hcy ⊢
      have hrow2 : wr.ownsRow B 5 1 (.slice (some ⟨r, 0, none⟩) m cap) m (bytes ((P ++ E.take j) ++ b :: R)) := by
        have e2 : P ++ ((E.take j ++ [b]) ++ R) = (P ++ E.take j) ++ b :: R := by simp
        rw [← e2]; exact hrow
      have hpl : (P ++ E.take j).length = p + j := by rw [List.length_append, List.length_take, ← HP.out]; omega
      obtain ⟨hcx, hfx, hset⟩ := row_mid B hrow2
      rw [hpl] at hcx hfx hset
      obtain ⟨hk1, hk2⟩ := byte_l ⟨b, hb256⟩ ⟨cy, hcy⟩
      have hsn : shL 0 (E.drop j) = ((b / 2 + 128 * cy) :: R, b % 2) := by rw [hdr, hcyd, hRd]; rfl
      have HK1 := hide hk1
      have HK2 := hide hk2
      have HSET := hide hset
      have HSN := hide hsn
      have b1 : (0 : Int) ≤ (j : Int) := by omega
      clear hk1 hk2 hset htk hdr hb hrow hrow2 hpl hjl hcyd hRd hsn
      go_wp2
      go_roundw
      case measure => simp [intOf]
      case rel =>
        refine ⟨j, by omega, by go_num, ?_, ?_, ?_⟩
        · rw [HSN.out]
          exact congrArg (Value.int .u8) HK2.out
        · show World.ownsRow _ _ _ _ _ _ _
          have h1 := HSET.out (b / 2 + 128 * cy)
          rw [HSN.out]
          have e2 : P ++ (E.take j ++ (b / 2 + 128 * cy) :: R) = P ++ E.take j ++ (b / 2 + 128 * cy) :: R := by simp
          rw [e2]
          have e1 := HK1.out
          simp only [Int.natCast_mul, Int.cast_ofNat_Int] at e1
          rw [e1]
          exact h1
        · exact HC.out.setCell (p := ⟨r, p + j, none⟩) (fun _ => rfl) _
end
end Go.Proofs.Ytammpllfmbmdmaa
