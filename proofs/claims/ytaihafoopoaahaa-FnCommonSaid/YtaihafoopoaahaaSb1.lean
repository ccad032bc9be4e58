/- The walk of sortedByFirstByte. Under sizes alone. -/
import Derived.Test.YtaihafoopoaahaaSu3
import Derived.Test.YtaihafoopoaahaaSb0
namespace Go.Proofs.Ytaihafoopoaahaa
open Go.RowKit

abbrev bts (s : List UInt8) : List Value := s.map (fun x => Value.int .u8 (x.toNat : Int))

set_option maxRecDepth 100000 in
theorem zero51 (w : World) : (zeroValue 51).run Try.prog w = .ok (.agg (Array.replicate 256 (.int .i64 0))) w := by kernel_rfl
theorem rep256 : Array.replicate 256 (Value.int .i64 0) = arr 256 (fun _ => 0) := by
  apply arr_ext
  · simp
  · intro i hi
    simp [hi]

theorem made_arr (n : Nat) : madeCells (Value.int .i64 0).cells (n * 1) = arr n (fun _ => 0) := by
  apply arr_ext
  · rw [size_madeCells]; simp
  · intro i hi
    simp [madeCells, Value.cells, hi, Nat.mod_one]
theorem make_ints {n : Nat} (hn : n ≤ 1000000000) (w : World) : (Instr.makeSlice 23 (.int .i64 (n : Int)) (.int .i64 (n : Int))).run Try.prog w = .ok (.slice (some ⟨w.heap.size, 0, none⟩) n n) (w.alloc (.cells (arr n (fun _ => 0)) 3)) := by
  obtain ⟨i0, hi, hz0, hz1, hz2⟩ := info_parts info3
  have hr := run_make (P := Try.prog) w 23 3 i0 (.int .i64 0) Try.underlying23 hi hz0 .i64 .i64 n n (by omega) (Int.le_refl _) (by rw [hz2]; omega) (by omega)
  simp only [Int.toNat_natCast] at hr
  rw [hr, hz1, made_arr]

/-- The counts in memory. -/
structure Ct (w : World) (g : Nat) (C : Nat → Int) (wr : World) : Prop where
  blk : Blk wr g 51 (arr 256 C)
  bel : Below w.heap.size w wr

theorem Ct.set {w wr : World} {g : Nat} {C : Nat → Int} (h : Ct w g C wr) (hg : w.heap.size ≤ g) (b : Nat) (v : Int) : Ct w g (upd C b v) (wr.setCell ⟨g, b, none⟩ (.int .i64 v)) :=
  ⟨h.blk.iset b v, h.bel.setCell (p := ⟨g, b, none⟩) hg _⟩
theorem Ct.eq {w wr : World} {g : Nat} {C D : Nat → Int} (h : Ct w g C wr) (e : ∀ b, b < 256 → C b = D b) : Ct w g D wr := ⟨by rw [← arr_congr e]; exact h.blk, h.bel⟩

theorem bts_at {s : List UInt8} {i : Nat} {u : Value} (h : (bts s)[i]? = some u) : ∃ hi : i < s.length, u = .int .u8 (s[i].toNat : Int) := by
  have hi : i < s.length := by
    have := (List.getElem?_eq_some_iff.1 h).1
    simpa using this
  refine ⟨hi, ?_⟩
  rw [List.getElem?_map, List.getElem?_eq_getElem hi] at h
  exact (Option.some.inj h).symm

set_option linter.unusedSimpArgs false in
set_option linter.unusedVariables false in
set_option maxHeartbeats 2000000 in
set_option maxRecDepth 100000 in
theorem firstByte_any (s : List UInt8) (A : Option Addr) (c : Nat) (w : World) (h : Reads w (fun i => i < w.heap.size) 1 A s.length (bts s)) (hn : s.length ≤ 1000000) :
    Calls Try.prog 18 #[.slice A s.length c] w fun e w' => ∃ p : Nat → Nat, e = .returned (.slice (some ⟨w.heap.size + 1, 0, none⟩) s.length s.length) ∧ Below w.heap.size w w' ∧ w'.heap.size = w.heap.size + 2 ∧
      Blk w' (w.heap.size + 1) 3 (arr s.length (fun k => (p k : Int))) ∧ Pm s.length p ∧ ∀ j k, j ≤ k → k < s.length → (s.getD (p j) 0).toNat ≤ (s.getD (p k) 0).toNat := by
  have H := hide h
  clear h
  have hz : ∀ w, (zeroValue 51).run Try.prog w = .ok (.agg (arr 256 (fun _ => 0))) w := fun w => by rw [← rep256]; exact zero51 w
  have hmk := fun w => make_ints (n := s.length) (by omega) w
  go_enter Try.func18, Try.ntmps18
  go_wp2
  go_loopw [13] (fun s13 wr => ∃ i : Nat, s13 = .int .i64 i ∧ i ≤ s.length ∧ wr.heap.size = w.heap.size + 1 ∧ Hid (Ct w w.heap.size (fun b => (cnt (s.take i) b : Int)) wr)) (fun s13 _ => s.length - (intOf s13).toNat)
  case atStart =>
    refine ⟨0, rfl, Nat.zero_le _, by simp, ?_⟩
    exact hide ⟨Blk.new w 51 _, (Below.refl _ w).alloc (Nat.le_refl _) _⟩
  case round =>
    obtain ⟨i, rfl, hi, hsz, HC⟩ := hrel
    by_cases hlt : i < s.length
    · obtain ⟨ad, u, rfl, _, hx, hcx⟩ := (H.out.below HC.out.bel).at_ hlt
      obtain ⟨_, rfl⟩ := bts_at hx
      have hb := s[i].toNat_lt
      have HN := hide (cnt_next s hlt)
      obtain ⟨b, hbe⟩ : ∃ b, b = s[i].toNat := ⟨_, rfl⟩
      rw [← hbe] at hcx hb
      have HBE := hide hbe
      have c0 := HC.out.blk.icell (i := b) hb
      have f0 := HC.out.blk.frozen b
      have hle := cnt_le s i b
      have hle2 : cnt s b ≤ s.length := List.countP_le_length
      have HF : Hid (Ct w w.heap.size (fun k => (cnt (s.take (i + 1)) k : Int)) (wr.setCell ⟨w.heap.size, b, none⟩ (.int .i64 ((cnt (s.take i) b : Int) + 1)))) := by
        refine hide ((HC.out.set (Nat.le_refl _) b ((cnt (s.take i) b : Int) + 1)).eq (fun k hk => ?_))
        rw [HN.out k, ← HBE.out]
        unfold upd
        dsimp only
        by_cases e : k = b
        · rw [if_pos e, if_pos e.symm, e]; omega
        · rw [if_neg e, if_neg (Ne.symm e)]; omega
      clear hx HC hbe
      go_wp2
      exact ⟨⟨i + 1, by go_num, by omega, by simpa [World.setCell] using hsz, HF⟩, by simp [intOf]; omega⟩
    · obtain rfl : i = s.length := by omega
      have HC2 : Hid (Ct w w.heap.size (fun k => if k < 0 then (less s k : Int) else (cnt s k : Int)) wr) := by
        refine hide (HC.out.eq (fun k hk => ?_))
        rw [if_neg (by omega), List.take_length]
      clear HC
      go_wp2
      go_loopw [6, 23] (fun s6 s23 wx => ∃ j : Nat, s6 = .int .i64 (less s j : Int) ∧ s23 = .int .i64 j ∧ j ≤ 256 ∧ wx.heap.size = w.heap.size + 1 ∧ Hid (Ct w w.heap.size (fun k => if k < j then (less s k : Int) else (cnt s k : Int)) wx)) (fun _ s23 _ => 256 - (intOf s23).toNat)
      case atStart => exact ⟨0, by rw [less_zero]; rfl, rfl, by omega, hsz, HC2⟩
      case round =>
        obtain ⟨j, rfl, rfl, hj, hsz2, HC⟩ := hrel
        clear HC2
        by_cases hj2 : j < 256
        · have c0 := HC.out.blk.icell (i := j) hj2
          have f0 := HC.out.blk.frozen j
          simp only [Nat.lt_irrefl, if_false] at c0
          have hle : cnt s j ≤ s.length := List.countP_le_length
          have hle2 : less s j ≤ s.length := List.countP_le_length
          have hls := less_succ s j
          have HF : Hid (Ct w w.heap.size (fun k => if k < j + 1 then (less s k : Int) else (cnt s k : Int)) (wr.setCell ⟨w.heap.size, j, none⟩ (.int .i64 (less s j : Int)))) := by
            refine hide ((HC.out.set (Nat.le_refl _) j (less s j : Int)).eq (fun k hk => ?_))
            unfold upd
            dsimp only
            by_cases e : k = j
            · rw [if_pos e, if_pos (by omega), e]
            · rw [if_neg e]
              by_cases e2 : k < j
              · rw [if_pos e2, if_pos (by omega)]
              · rw [if_neg e2, if_neg (by omega)]
          clear HC
          go_wp2
          exact ⟨⟨j + 1, by rw [hls]; go_num, by go_num, by omega, by simpa [World.setCell] using hsz2, HF⟩, by simp [intOf]; omega⟩
        · obtain rfl : j = 256 := by omega
          have HC3 : Hid (Ct w w.heap.size (fun k => (less s k : Int)) wr) := by
            refine hide (HC.out.eq (fun k hk => ?_))
            rw [if_pos hk]
          clear HC
          have HI : Hid (∃ S : Nat → Int, Ct w w.heap.size (fun k => (less s k : Int) + (cnt (s.take 0) k : Int)) (wr.alloc (.cells (arr s.length (fun _ => 0)) 3)) ∧ Blk (wr.alloc (.cells (arr s.length (fun _ => 0)) 3)) (w.heap.size + 1) 3 (arr s.length S) ∧ ∀ j, j < 0 → S (pos s j) = j) := by
            refine hide ⟨_, ⟨(HC3.out.eq (fun k hk => ?_)).blk.alloc _, HC3.out.bel.alloc (by omega) _⟩, Blk.new_ wr 3 _ hsz2, fun j hj => by omega⟩
            rw [List.take_zero, cnt_nil]; simp
          clear HC3
          have hsz3 : (wr.alloc (.cells (arr s.length (fun _ => 0)) 3)).heap.size = w.heap.size + 2 := by simp [hsz2]
          go_wp2
          go_loopw [40] (fun s40 wx => ∃ i : Nat, s40 = .int .i64 i ∧ i ≤ s.length ∧ wx.heap.size = w.heap.size + 2 ∧ Hid (∃ S : Nat → Int, Ct w w.heap.size (fun k => (less s k : Int) + (cnt (s.take i) k : Int)) wx ∧ Blk wx (w.heap.size + 1) 3 (arr s.length S) ∧ ∀ j, j < i → S (pos s j) = j)) (fun s40 _ => s.length - (intOf s40).toNat)
          case atStart => exact ⟨0, rfl, Nat.zero_le _, hsz3, HI⟩
          case round =>
            obtain ⟨i, rfl, hi, hsz4, HJ⟩ := hrel
            obtain ⟨S, hct, hbs, hpos⟩ := HJ.out
            have HC := hide hct
            have HB := hide hbs
            have HP := hide hpos
            clear HI HJ hct hbs hpos
            by_cases hlt : i < s.length
            · obtain ⟨ad, u, rfl, _, hx, hcx⟩ := (H.out.below HC.out.bel).at_ hlt
              obtain ⟨_, rfl⟩ := bts_at hx
              have hb := s[i].toNat_lt
              have HN := hide (cnt_next s hlt)
              have hgd : s.getD i 0 = s[i] := by simp [List.getD_eq_getElem?_getD, hlt]
              obtain ⟨b, hbe⟩ : ∃ b, b = s[i].toNat := ⟨_, rfl⟩
              have hpl := (pos_lt s hlt).2.2
              have hpe : pos s i = less s b + cnt (s.take i) b := by unfold pos; rw [hgd, ← hbe]
              have HPI := hide (fun j (hj : j < s.length) (e : pos s j = pos s i) => pos_inj s hj hlt e)
              rw [← hbe] at hcx hb
              have HBE := hide hbe
              obtain ⟨q, hq⟩ : ∃ q, q = pos s i := ⟨_, rfl⟩
              rw [← hq] at hpl hpe
              have HQ := hide hq
              have c0 := HC.out.blk.icell (i := b) hb
              have f0 := HC.out.blk.frozen b
              rw [show (less s b : Int) + (cnt (s.take i) b : Int) = (q : Int) by omega] at c0
              have c1 := HB.out.icell (i := q) hpl
              have f1 := HB.out.frozen q
              have HF : Hid (∃ S : Nat → Int, Ct w w.heap.size (fun k => (less s k : Int) + (cnt (s.take (i + 1)) k : Int)) ((wr.setCell ⟨w.heap.size + 1, q, none⟩ (.int .i64 (i : Int))).setCell ⟨w.heap.size, b, none⟩ (.int .i64 ((q : Int) + 1))) ∧ Blk ((wr.setCell ⟨w.heap.size + 1, q, none⟩ (.int .i64 (i : Int))).setCell ⟨w.heap.size, b, none⟩ (.int .i64 ((q : Int) + 1))) (w.heap.size + 1) 3 (arr s.length S) ∧ ∀ j, j < (i + 1) → S (pos s j) = j) := by
                refine hide ⟨_, ?_, (HB.out.iset q (i : Int)).far (by simp) _, fun j hj => ?_⟩
                · have h1 : Ct w w.heap.size (fun k => (less s k : Int) + (cnt (s.take i) k : Int)) (wr.setCell ⟨w.heap.size + 1, q, none⟩ (.int .i64 (i : Int))) := ⟨HC.out.blk.far (by simp) _, HC.out.bel.setCell (p := ⟨w.heap.size + 1, q, none⟩) (by simp) _⟩
                  refine (h1.set (Nat.le_refl _) b ((q : Int) + 1)).eq (fun k hk => ?_)
                  rw [HN.out k, ← HBE.out]
                  unfold upd
                  dsimp only
                  by_cases e : k = b
                  · rw [if_pos e, if_pos e.symm, e]; omega
                  · rw [if_neg e, if_neg (Ne.symm e)]; omega
                · unfold upd
                  by_cases e : j = i
                  · subst e; rw [if_pos HQ.out.symm]
                  · rw [if_neg (fun e2 => e (HPI.out j (by omega) (by rw [e2, HQ.out])))]
                    exact HP.out j (by omega)
              clear hx HC HB HP hbe hgd HPI hpe hq
              go_wp2
              exact ⟨⟨i + 1, by go_num, by omega, by simpa [World.setCell] using hsz4, HF⟩, by simp [intOf]; omega⟩
            · obtain rfl : i = s.length := by omega
              obtain ⟨p, hp1, hp2, hp3⟩ := placed s S HP.out
              have HF : Hid (∃ p : Nat → Nat, Below w.heap.size w wr ∧ wr.heap.size = w.heap.size + 2 ∧ Blk wr (w.heap.size + 1) 3 (arr s.length (fun k => (p k : Int))) ∧ Pm s.length p ∧ ∀ j k, j ≤ k → k < s.length → (s.getD (p j) 0).toNat ≤ (s.getD (p k) 0).toNat) :=
                hide ⟨p, HC.out.bel, hsz4, by rw [← arr_congr hp2]; exact HB.out, hp1, hp3⟩
              clear hp1 hp2 hp3 HC HB HP
              go_wp2
              go_ret
              obtain ⟨p, h1, h2, h3, h4, h5⟩ := HF.out
              exact ⟨p, rfl, h1, h2, h3, h4, h5⟩
end Go.Proofs.Ytaihafoopoaahaa
