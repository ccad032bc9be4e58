/- The walks of semver's zzSplit, validPreRelease, parseNumeric. No condition but sizes; parseNumeric where the library's two error variables hold errors. -/
import Derived.Test.YtaoeelhgfdknfaaDoorW11
import Derived.Test.YtaoeelhgfdknfaaDoorW9
namespace Go.Proofs.YtaoeelhgfdknfaaDoor
open Go.RowKit

attribute [local go_sem] S_size S_toList E_toList S_extract

theorem dots_split (l : Bs) : (fst 46 l < l.length ∧ idxI 46 l = fst 46 l ∧ dots l = bef 46 l :: dots (aft 46 l)) ∨ (¬ fst 46 l < l.length ∧ idxI 46 l = -1 ∧ dots l = [l]) := by
  rcases cut_idx l with ⟨h1, h2, h3⟩ | ⟨k, h1, hk, h2, h3⟩
  · right
    have hm : ∀ d ∈ l, d ≠ 46 := by
      have := (dots_mem l l (by rw [h3]; simp)).1
      exact fun d hd => (this d hd).1
    have hf := fst_miss hm
    exact ⟨by omega, by unfold idxI; rw [if_neg (by omega)], h3⟩
  · left
    have hat : l[k]? = some 46 := by
      have hc : ∀ (l : Bs) (k : Nat), Lib.indexByte l 46 = k → l[k]? = some 46 := by
        intro l
        induction l with
        | nil => intro k h; simp [Lib.indexByte] at h; try omega
        | cons c l ih =>
          intro k h
          unfold Lib.indexByte at h
          by_cases hc : c = 46
          · subst hc; simp at h; have : k = 0 := by omega
            subst this; rfl
          · have e1 : (c == 46) = false := beq_eq_false_iff_ne.2 hc
            rw [e1] at h
            simp only [Bool.false_eq_true, if_false] at h
            split at h
            · omega
            · cases k with
              | zero => have := Lib.indexByte_ge l 46; rename_i hn; simp at hn; omega
              | succ k => simpa using ih k (by omega)
      exact hc l k h1
    have hno : ∀ d ∈ l.take k, d ≠ 46 := by
      have := (dots_mem l (l.take k) (by rw [h3]; simp)).1
      exact fun d hd => (this d hd).1
    have hf : fst 46 l = k := fst_hit hat hno
    refine ⟨by omega, by unfold idxI; rw [if_pos (by omega)], ?_⟩
    unfold bef aft
    rw [hf]; exact h3

set_option maxHeartbeats 1000000 in
set_option maxRecDepth 100000 in
theorem zzsplit_any (l : Bs) (w : World) (hl : l.length ≤ 8589934592) : Calls Tryd.prog 47 #[.string (S l), .string (S [46])] w (SplitOut l w) := by
  obtain ⟨i0, hinf, hz0, hz1, hz2⟩ := info_parts info9
  go_enter Tryd.func47, Tryd.ntmps47
  go_wp2
  go_loopw [0, 5] (fun s v wr => ∃ (P : List Bs) (t : Bs), s = .string (S t) ∧ t.length ≤ l.length ∧ P.length + t.length ≤ l.length ∧ Hid (wr.ownsRow w.heap.size 9 1 v P.length (strs P)) ∧ Hid (Below w.heap.size w wr) ∧ Hid (dots l = P ++ dots t)) (fun s _ _ => strLen s)
  case atStart => exact ⟨[], l, rfl, Nat.le_refl _, by simp, World.ownsRow_nil _ _ _ _, Below.refl _ _, rfl⟩
  case round =>
    obtain ⟨P, t, rfl, htl, hPt, HO, HB, HD⟩ := hrel
    have hwr := HB.out.size
    have hix := fun W => zzindex_any 46 t W (by omega)
    rcases dots_split t with ⟨h1, h2, h3⟩ | ⟨h1, h2, h3⟩
    · rw [h2] at hix
      obtain ⟨k, hk⟩ : ∃ k, k = fst 46 t := ⟨_, rfl⟩
      rw [← hk] at hix h1
      have hb : bef 46 t = t.take k := by unfold bef; rw [hk]
      have ha : aft 46 t = t.drop (k + 1) := by unfold aft; rw [hk]
      rw [hb, ha] at h3
      have H3 := hide h3
      have HIX := hide hix
      have hk2 : (k : Int) ≤ (t.length : Int) := by omega
      have hk3 : (k : Int) + 1 ≤ (t.length : Int) := by omega
      have hk0 : (0 : Int) ≤ (k : Int) := by omega
      clear h2 h3 hk hb ha hix
      go_wp2_with fail
      refine (HIX.out _).mono ?_
      rintro e w9 ⟨rfl, rfl⟩
      go_wp2_with (at_builtin; go_must (refine wpList_append1 rfl _ _ 45 rfl w.heap.size 9 i0 (.string ⟨#[]⟩) 16 Tryd.underlying45 hinf hz0 hz1 hz2 rfl u5 P.length (strs P) rfl (World.ownsRow.alloc HO.out _) ⟨_, 0, none⟩ 1 (.string (S (t.take k))) rfl ((Blk.new _ 9 #[.string (S (t.take k))]).cell 0) rfl (by unfold maxLen; omega) (by omega) (by simp; omega) ?_); intro g1 cp w1 hO _ hG hat hg1; have HO1 := hide hO; have HB1 : Hid (Below w.heap.size w w1) := own_append_below HO.out HB.out hG (Nat.le_refl _) hwr; clear hO hG hat hg1)
      go_roundw
      case measure =>
        simp only [strLen, S_size, List.length_drop]
        omega
      case rel =>
        refine ⟨P ++ [t.take k], t.drop (k + 1), rfl, by rw [List.length_drop]; omega, by rw [List.length_append, List.length_drop]; simp; omega, ?_, HB1.out, ?_⟩
        · show World.ownsRow _ _ _ _ _ _ _
          rw [List.length_append]
          have e : strs (P ++ [t.take k]) = strs P ++ [.string (S (t.take k))] := by simp
          rw [e]; exact HO1.out
        · show _ = _
          rw [HD.out, H3.out]; simp
    · rw [h2] at hix
      have hfin : dots l = P ++ [t] := by rw [HD.out, h3]
      have HF := hide hfin
      have HIX := hide hix
      clear h1 h2 h3 hfin hix
      go_wp2_with fail
      refine (HIX.out _).mono ?_
      rintro e w9 ⟨rfl, rfl⟩
      go_wp2_with (at_builtin; go_must (refine wpList_append1 rfl _ _ 45 rfl w.heap.size 9 i0 (.string ⟨#[]⟩) 16 Tryd.underlying45 hinf hz0 hz1 hz2 rfl u5 P.length (strs P) rfl (World.ownsRow.alloc HO.out _) ⟨_, 0, none⟩ 1 (.string (S t)) rfl ((Blk.new _ 9 #[.string (S t)]).cell 0) rfl (by unfold maxLen; omega) (by omega) (by simp; omega) ?_); intro g1 cp w1 hO _ hG hat hg1; have HO1 := hide hO; have HB1 : Hid (Below w.heap.size w w1) := own_append_below HO.out HB.out hG (Nat.le_refl _) hwr; clear hO hG hat hg1)
      go_ret
      unfold SplitOut
      rw [HF.out, List.length_append]
      have e : strs (P ++ [t]) = strs P ++ [.string (S t)] := by simp
      rw [e]
      exact ⟨_, _, rfl, Reads.of_own HO1.out, (own_cap HO1.out).1, (own_cap HO1.out).2, HB1.out⟩

set_option maxHeartbeats 2000000 in
set_option maxRecDepth 100000 in
theorem validpre_any (l : Bs) (w : World) (hl : l.length ≤ 8589934591) (hid : identsB l = true) : Calls Tryd.prog 37 #[.string (S l)] w fun e w' => e = .returned (.bool (!leadingB l)) ∧ Below w.heap.size w w' := by
  have hasc : ∀ x ∈ dots l, ∀ c ∈ x, c.toNat < 128 := by
    intro x hx c hc
    have h1 := List.all_eq_true.1 hid x hx
    rw [Bool.and_eq_true] at h1
    have := isIdc_yes (List.all_eq_true.1 h1.1 c hc)
    omega
  have HASC := hide hasc
  have hsp := zzsplit_any l w (by omega)
  clear hasc hid
  go_enter Tryd.func37, Tryd.ntmps37
  go_wp2_with fail
  refine hsp.mono ?_
  clear hsp
  rintro e w2 ⟨A, cc, rfl, hr, _, _, hb⟩
  have HR := hide hr
  have HB := hide hb
  have hnl := dots_length l
  have HMEM := hide (dots_mem l)
  clear hr hb
  obtain ⟨n, hn⟩ : ∃ n, n = (dots l).length := ⟨_, rfl⟩
  rw [← hn] at HR hnl ⊢
  have HN := hide hn
  clear hn
  go_wp2
  go_loopw [8] (fun i wr => ∃ j : Nat, j ≤ n ∧ i = .int .i64 j ∧ Hid (Below w2.heap.size w2 wr) ∧ Hid (((dots l).take j).any leads = false)) (fun i _ => n - (intOf i).toNat)
  case atStart => exact ⟨0, Nat.zero_le _, rfl, Below.refl _ _, rfl⟩
  case round =>
    obtain ⟨j, hj, rfl, HBW, HA⟩ := hrel
    have HBB : Hid (Below w.heap.size w wr) := HB.out.trans (HBW.out.mono HB.out.size)
    have HR2 : Hid (Reads wr (fun i => w.heap.size ≤ i) 1 A n (strs (dots l))) := HR.out.below HBW.out
    by_cases hlt : j < n
    · obtain ⟨ad, u, rfl, _, hx, hcx⟩ := HR2.out.at_ hlt
      obtain ⟨x, hxx, rfl⟩ := strs_at hx
      have HX := hide hxx
      have hxl := (HMEM.out x (mem_at hxx)).2
      have hgo : leads x = false → Hid (((dots l).take (j + 1)).any leads = false) := fun h => by
        show _ = _
        rw [take_succ HX.out, List.any_append, HA.out]
        simp [h]
      clear hx hxx
      by_cases h1 : 1 < x.length
      · obtain ⟨c, hc⟩ : ∃ c, x[0]? = some c := ⟨_, List.getElem?_eq_getElem (by omega)⟩
        have hix : ∀ W : World, (Instr.index 9 (.string (S x)) (.int .i64 0)).run Tryd.prog W = .ok (.int .u8 (c.toNat : Int)) W := index_S hc
        by_cases h48 : c.toNat = 48
        · have h48' : (c.toNat : Int) = 48 := by omega
          rw [h48'] at hix
          have hall := fun W => alldec_any x W (HASC.out x (mem_at HX.out))
          cases hd : digitsB x
          · have HG := hgo (leads_no (Or.inl hd))
            rw [hd] at hall
            have HALL := hide hall
            clear hgo hd hc h48 h48' hall
            go_wp2_with fail
            refine (HALL.out _).mono ?_
            rintro e w3 ⟨rfl, hb3⟩
            have HB3 : Hid (Below w2.heap.size w2 w3) := HBW.out.trans (hb3.mono HBW.out.size)
            clear hb3
            go_wp2
            go_roundw
            case measure => simp [intOf]; omega
            case rel => exact ⟨j + 1, by omega, by go_num, HB3.out, HG⟩
          · have hyes : (!leadingB l) = false := by
              have : leadingB l = true := by
                unfold leadingB
                rw [List.any_eq_true]
                exact ⟨x, mem_at HX.out, leads_yes hd h1 hc h48⟩
              rw [this]; rfl
            have HY := hide hyes
            rw [hd] at hall
            have HALL := hide hall
            clear hgo hd hc h48 h48' hall hyes
            go_wp2_with fail
            refine (HALL.out _).mono ?_
            rintro e w3 ⟨rfl, hb3⟩
            have HB3 : Hid (Below w.heap.size w w3) := HBB.out.trans (hb3.mono HBB.out.size)
            clear hb3
            go_wp2
            go_ret
            exact ⟨by rw [HY.out]; rfl, HB3.out⟩
        · have HG := hgo (leads_no (Or.inr (Or.inr ⟨c, hc, h48⟩)))
          have h48' : ¬ (c.toNat : Int) = 48 := by omega
          clear hgo hc h48
          go_wp2
          go_roundw
          case measure => simp [intOf]; omega
          case rel => exact ⟨j + 1, by omega, by go_num, HBW.out, HG⟩
      · have HG := hgo (leads_no (Or.inr (Or.inl (by omega))))
        clear hgo
        go_wp2
        go_roundw
        case measure => simp [intOf]; omega
        case rel => exact ⟨j + 1, by omega, by go_num, HBW.out, HG⟩
    · have hjn : j = n := by omega
      have hfin : (!leadingB l) = true := by
        have h1 := HA.out
        rw [hjn, HN.out, List.take_length] at h1
        have : leadingB l = false := h1
        rw [this]; rfl
      have HF := hide hfin
      clear hfin hjn
      go_wp2
      go_ret
      exact ⟨by rw [HF.out]; rfl, HBB.out⟩

/-- The library's two error variables hold errors. -/
def VarsOk (w : World) : Prop := (∃ t p, w.cell? ⟨0, 0, none⟩ = some (.iface t p)) ∧ (∃ t p, w.cell? ⟨1, 0, none⟩ = some (.iface t p))
theorem VarsOk.below {w w' : World} (h : VarsOk w) (hb : Below w.heap.size w w') : VarsOk w' := by
  obtain ⟨⟨t, p, h1⟩, ⟨t', p', h2⟩⟩ := h
  exact ⟨⟨t, p, (hb.cell (p := ⟨0, 0, none⟩) (World.block_lt_of_cell? w _ h1)).trans h1⟩, ⟨t', p', (hb.cell (p := ⟨1, 0, none⟩) (World.block_lt_of_cell? w _ h2)).trans h2⟩⟩

set_option maxHeartbeats 400000 in
theorem errnew_any (s : ByteArray) (w : World) : Calls Tryd.prog 36 #[.string s] w fun e w' => (∃ t p, e = .returned (.iface t p)) ∧ Below w.heap.size w w' := by
  go_enter Tryd.func36, Tryd.ntmps36
  go_wp2
  go_ret
  exact ⟨⟨_, _, rfl⟩, (Below.refl _ _).alloc (Nat.le_refl _) _⟩

/-- What parseNumeric hands back: the number and no error, or an error. -/
def NumOut (r : Option Int) (w : World) (e : Ending) (w' : World) : Prop :=
  (match r with
    | some v => e = .returned (.tuple #[.int .i64 v, .nilIface])
    | none => ∃ v t p, e = .returned (.tuple #[.int .i64 v, .iface t p])) ∧ Below w.heap.size w w'
theorem parseint_any (x : Bs) (w : World) (hl : x.length ≤ 8589934592) (hv : VarsOk w) : Calls Tryd.prog 48 #[.string (S x), .int .i64 10, .int .i64 64] w (NumOut (intOk (Lib.parseIntB 64 x)) w) := by
  have hsz : (S x).size ≤ 8589934592 := by rw [S_size]; exact hl
  have hx : (S x).data.toList = x := by simp [S]
  obtain ⟨⟨t0, p0, h0⟩, ⟨t1, p1, h1⟩⟩ := hv
  cases h : Lib.parseIntB 64 x with
  | ok v =>
    refine (Any.strconv_ParseInt_10_at64_ok Tryd.laysC174 (S x) (by omega) v (by rw [hx]; exact h) w).mono ?_
    rintro e w' ⟨he, hw⟩
    refine ⟨he, ?_⟩
    rcases hw with rfl | ⟨t, rfl⟩
    · exact Below.refl _ _
    · exact Go.Joins.below_bytesWorld _ _ _ _ (Nat.le_refl _)
  | range =>
    refine (Any.strconv_ParseInt_10_at64_range Tryd.laysC174 (S x) (by omega) (by rw [hx]; exact h) _ w h1 (Or.inr ⟨_, _, rfl⟩)).mono ?_
    rintro e w' ⟨N, he, _, _, hb⟩
    exact ⟨⟨_, _, _, he⟩, hb⟩
  | _ =>
    refine (Any.strconv_ParseInt_10_at64_syntax Tryd.laysC174 (S x) (by omega) (by rw [hx]; exact h) _ w h0 (Or.inr ⟨_, _, rfl⟩)).mono ?_
    rintro e w' ⟨N, he, _, _, hb⟩
    exact ⟨⟨_, _, _, he⟩, hb⟩
end Go.Proofs.YtaoeelhgfdknfaaDoor
