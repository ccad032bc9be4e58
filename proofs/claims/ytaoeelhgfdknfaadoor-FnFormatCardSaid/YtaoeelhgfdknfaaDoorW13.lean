/- The walks of semver's parseNumeric and Parse. No condition but sizes, and that the library's two error variables hold errors. Printed by gen_w13.py. -/
import Derived.Test.YtaoeelhgfdknfaaDoorW12
namespace Go.Proofs.YtaoeelhgfdknfaaDoor
open Go.RowKit

attribute [local go_sem] S_size S_toList E_toList S_extract

theorem NumOut.split {o : Option Int} {w w' : World} {e : Ending} (h : NumOut o w e w') : ((∃ v, o = some v ∧ e = .returned (.tuple #[.int .i64 v, .nilIface])) ∨ (o = none ∧ ∃ (v : Int) (t p : _), e = .returned (.tuple #[.int .i64 v, .iface t p]))) ∧ Below w.heap.size w w' := by
  cases o with
  | some v => exact ⟨Or.inl ⟨v, rfl, h.1⟩, h.2⟩
  | none => obtain ⟨⟨v, t, p, he⟩, hb⟩ := h; exact ⟨Or.inr ⟨rfl, v, t, p, he⟩, hb⟩
theorem below_set {w W : World} (h : Below w.heap.size w W) (i : Nat) (u : Value) : Below w.heap.size w (W.setCell ⟨w.heap.size, i, none⟩ u) :=
  ((Chg.ofBelow h (fun _ => False)).setCell (p := ⟨w.heap.size, i, none⟩) (fun hlt => absurd hlt (Nat.lt_irrefl _)) u).toBelow
theorem below_drew {w W : World} (h : Below w.heap.size w W) : Below w.heap.size w W.drew := ((Chg.ofBelow h (fun _ => False)).drew).toBelow
theorem below_drewN {w W : World} (h : Below w.heap.size w W) (q : Nat) : Below w.heap.size w (W.drewN q) := ((Chg.ofBelow h (fun _ => False)).drewN q).toBelow

set_option linter.unusedVariables false in
set_option linter.unusedSimpArgs false in
set_option maxHeartbeats 2000000 in
set_option maxRecDepth 100000 in
theorem pnum_e (x : Bs) (w : World) (hl : x.length ≤ 8589934592) (hv : VarsOk w) (he : x.isEmpty = true) : Calls Tryd.prog 39 #[.string (S x)] w (NumOut (pnum x) w) := by
  have hp : pnum x = none := by
    unfold pnum okNum
    rw [he]
    simp
  have HP := hide hp
  clear hp
  go_enter Tryd.func39, Tryd.ntmps39
  go_wp2_with fail
  refine (errnew_any _ _).mono ?_
  rintro e w9 ⟨⟨t9, p9, rfl⟩, hb9⟩
  have HB9 := hide hb9
  clear hb9
  go_wp2
  refine bodyPost_ret (v := .tuple #[.int .i64 0, .iface t9 p9]) ?_ rfl ?_
  · simp [results, Tryd.f39, go_sem]
  · rw [HP.out]; exact ⟨⟨_, _, _, rfl⟩, HB9.out⟩

set_option linter.unusedVariables false in
set_option linter.unusedSimpArgs false in
set_option maxHeartbeats 2000000 in
set_option maxRecDepth 100000 in
theorem pnum_43 (x : Bs) (w : World) (hl : x.length ≤ 8589934592) (hv : VarsOk w) (c : UInt8) (hc : x[0]? = some c) (h : c = 43) : Calls Tryd.prog 39 #[.string (S x)] w (NumOut (pnum x) w) := by
  have hix : ∀ W : World, (Instr.index 9 (.string (S x)) (.int .i64 0)).run Tryd.prog W = .ok (.int .u8 (c.toNat : Int)) W := index_S (l := x) (k := 0) hc
  have hle : x.isEmpty = false := by cases x with | nil => cases hc | cons _ _ => rfl
  have hhd : x.head? = some c := by cases x with | nil => cases hc | cons _ _ => simpa using hc
  have hlen : 0 < x.length := by cases x with | nil => cases hc | cons _ _ => simp
  have hp : pnum x = none := by
    unfold pnum okNum
    rw [hhd, h]
    simp
  have HP := hide hp
  have hz : (c.toNat : Int) = 43 := by rw [h]; rfl
  rw [hz] at hix
  clear hp hc hhd h hz
  go_enter Tryd.func39, Tryd.ntmps39
  go_wp2_with fail
  refine (errnew_any _ _).mono ?_
  rintro e w9 ⟨⟨t9, p9, rfl⟩, hb9⟩
  have HB9 := hide hb9
  clear hb9
  go_wp2
  refine bodyPost_ret (v := .tuple #[.int .i64 0, .iface t9 p9]) ?_ rfl ?_
  · simp [results, Tryd.f39, go_sem]
  · rw [HP.out]; exact ⟨⟨_, _, _, rfl⟩, HB9.out⟩

set_option linter.unusedVariables false in
set_option linter.unusedSimpArgs false in
set_option maxHeartbeats 2000000 in
set_option maxRecDepth 100000 in
theorem pnum_45 (x : Bs) (w : World) (hl : x.length ≤ 8589934592) (hv : VarsOk w) (c : UInt8) (hc : x[0]? = some c) (h : c = 45) : Calls Tryd.prog 39 #[.string (S x)] w (NumOut (pnum x) w) := by
  have hix : ∀ W : World, (Instr.index 9 (.string (S x)) (.int .i64 0)).run Tryd.prog W = .ok (.int .u8 (c.toNat : Int)) W := index_S (l := x) (k := 0) hc
  have hle : x.isEmpty = false := by cases x with | nil => cases hc | cons _ _ => rfl
  have hhd : x.head? = some c := by cases x with | nil => cases hc | cons _ _ => simpa using hc
  have hlen : 0 < x.length := by cases x with | nil => cases hc | cons _ _ => simp
  have hp : pnum x = none := by
    unfold pnum okNum
    rw [hhd, h]
    simp
  have HP := hide hp
  have hz : (c.toNat : Int) = 45 := by rw [h]; rfl
  rw [hz] at hix
  clear hp hc hhd h hz
  go_enter Tryd.func39, Tryd.ntmps39
  go_wp2_with fail
  refine (errnew_any _ _).mono ?_
  rintro e w9 ⟨⟨t9, p9, rfl⟩, hb9⟩
  have HB9 := hide hb9
  clear hb9
  go_wp2
  refine bodyPost_ret (v := .tuple #[.int .i64 0, .iface t9 p9]) ?_ rfl ?_
  · simp [results, Tryd.f39, go_sem]
  · rw [HP.out]; exact ⟨⟨_, _, _, rfl⟩, HB9.out⟩

set_option linter.unusedVariables false in
set_option linter.unusedSimpArgs false in
set_option maxHeartbeats 2000000 in
set_option maxRecDepth 100000 in
theorem pnum_48 (x : Bs) (w : World) (hl : x.length ≤ 8589934592) (hv : VarsOk w) (c : UInt8) (hc : x[0]? = some c) (h : c = 48) (h1 : 1 < x.length) : Calls Tryd.prog 39 #[.string (S x)] w (NumOut (pnum x) w) := by
  have hix : ∀ W : World, (Instr.index 9 (.string (S x)) (.int .i64 0)).run Tryd.prog W = .ok (.int .u8 (c.toNat : Int)) W := index_S (l := x) (k := 0) hc
  have hle : x.isEmpty = false := by cases x with | nil => cases hc | cons _ _ => rfl
  have hhd : x.head? = some c := by cases x with | nil => cases hc | cons _ _ => simpa using hc
  have hlen : 0 < x.length := by cases x with | nil => cases hc | cons _ _ => simp
  have hp : pnum x = none := by
    unfold pnum okNum
    rw [hhd, h, decide_eq_true h1]
    simp
  have HP := hide hp
  have hz : (c.toNat : Int) = 48 := by rw [h]; rfl
  rw [hz] at hix
  clear hp hc hhd h hz
  go_enter Tryd.func39, Tryd.ntmps39
  go_wp2_with fail
  refine (errnew_any _ _).mono ?_
  rintro e w9 ⟨⟨t9, p9, rfl⟩, hb9⟩
  have HB9 := hide hb9
  clear hb9
  go_wp2
  refine bodyPost_ret (v := .tuple #[.int .i64 0, .iface t9 p9]) ?_ rfl ?_
  · simp [results, Tryd.f39, go_sem]
  · rw [HP.out]; exact ⟨⟨_, _, _, rfl⟩, HB9.out⟩

set_option linter.unusedVariables false in
set_option linter.unusedSimpArgs false in
set_option maxHeartbeats 2000000 in
set_option maxRecDepth 100000 in
theorem pnum_k1 (x : Bs) (w : World) (hl : x.length ≤ 8589934592) (hv : VarsOk w) (c : UInt8) (hc : x[0]? = some c) (h43 : ¬ c = 43) (h45 : ¬ c = 45) (h48 : ¬ c = 48) : Calls Tryd.prog 39 #[.string (S x)] w (NumOut (pnum x) w) := by
  have hix : ∀ W : World, (Instr.index 9 (.string (S x)) (.int .i64 0)).run Tryd.prog W = .ok (.int .u8 (c.toNat : Int)) W := index_S (l := x) (k := 0) hc
  have hle : x.isEmpty = false := by cases x with | nil => cases hc | cons _ _ => rfl
  have hhd : x.head? = some c := by cases x with | nil => cases hc | cons _ _ => simpa using hc
  have hlen : 0 < x.length := by cases x with | nil => cases hc | cons _ _ => simp
  have n1 : ((c.toNat : Int) == 43) = false := beq_eq_false_iff_ne.2 (fun e => h43 (UInt8.toNat_inj.1 (by have : (43 : UInt8).toNat = 43 := rfl; omega)))
  have n2 : ((c.toNat : Int) == 45) = false := beq_eq_false_iff_ne.2 (fun e => h45 (UInt8.toNat_inj.1 (by have : (45 : UInt8).toNat = 45 := rfl; omega)))
  have HPI : Hid (Calls Tryd.prog 48 #[.string (S x), .int .i64 10, .int .i64 64] w (NumOut (intOk (Lib.parseIntB 64 x)) w)) := parseint_any x w hl hv
  have hp : pnum x = intOk (Lib.parseIntB 64 x) := by
    have : okNum x = true := by unfold okNum; rw [hle, hhd]; simp [h43, h45, h48]
    unfold pnum; rw [if_pos this]
  have HP := hide hp
  have n3 : ((c.toNat : Int) == 48) = false := beq_eq_false_iff_ne.2 (fun e => h48 (UInt8.toNat_inj.1 (by have : (48 : UInt8).toNat = 48 := rfl; omega)))
  clear hp hc hhd h43 h45 h48 hv
  by_cases h1 : 1 < x.length
  · go_enter Tryd.func39, Tryd.ntmps39
    go_wp2_with fail
    refine (HPI.out).mono ?_
    rintro e w9 hn
    obtain ⟨(⟨v, hpn, rfl⟩ | ⟨hpn, v, t9, p9, rfl⟩), hb9⟩ := hn.split
    · have HB9 := hide hb9
      have HPP := hide (HP.out.trans hpn)
      clear hb9 hpn
      go_wp2
      refine bodyPost_ret (v := .tuple #[.int .i64 v, .nilIface]) ?_ rfl ?_
      · simp [results, Tryd.f39, go_sem]
      · rw [HPP.out]; exact ⟨rfl, HB9.out⟩
    · have HB9 := hide hb9
      have HPP := hide (HP.out.trans hpn)
      clear hb9 hpn
      go_wp2
      refine bodyPost_ret (v := .tuple #[.int .i64 v, .iface t9 p9]) ?_ rfl ?_
      · simp [results, Tryd.f39, go_sem]
      · rw [HPP.out]; exact ⟨⟨_, _, _, rfl⟩, HB9.out⟩
  · go_enter Tryd.func39, Tryd.ntmps39
    go_wp2_with fail
    refine (HPI.out).mono ?_
    rintro e w9 hn
    obtain ⟨(⟨v, hpn, rfl⟩ | ⟨hpn, v, t9, p9, rfl⟩), hb9⟩ := hn.split
    · have HB9 := hide hb9
      have HPP := hide (HP.out.trans hpn)
      clear hb9 hpn
      go_wp2
      refine bodyPost_ret (v := .tuple #[.int .i64 v, .nilIface]) ?_ rfl ?_
      · simp [results, Tryd.f39, go_sem]
      · rw [HPP.out]; exact ⟨rfl, HB9.out⟩
    · have HB9 := hide hb9
      have HPP := hide (HP.out.trans hpn)
      clear hb9 hpn
      go_wp2
      refine bodyPost_ret (v := .tuple #[.int .i64 v, .iface t9 p9]) ?_ rfl ?_
      · simp [results, Tryd.f39, go_sem]
      · rw [HPP.out]; exact ⟨⟨_, _, _, rfl⟩, HB9.out⟩

set_option linter.unusedVariables false in
set_option linter.unusedSimpArgs false in
set_option maxHeartbeats 2000000 in
set_option maxRecDepth 100000 in
theorem pnum_k2 (x : Bs) (w : World) (hl : x.length ≤ 8589934592) (hv : VarsOk w) (c : UInt8) (hc : x[0]? = some c) (h43 : ¬ c = 43) (h45 : ¬ c = 45) (h1 : ¬ 1 < x.length) : Calls Tryd.prog 39 #[.string (S x)] w (NumOut (pnum x) w) := by
  have hix : ∀ W : World, (Instr.index 9 (.string (S x)) (.int .i64 0)).run Tryd.prog W = .ok (.int .u8 (c.toNat : Int)) W := index_S (l := x) (k := 0) hc
  have hle : x.isEmpty = false := by cases x with | nil => cases hc | cons _ _ => rfl
  have hhd : x.head? = some c := by cases x with | nil => cases hc | cons _ _ => simpa using hc
  have hlen : 0 < x.length := by cases x with | nil => cases hc | cons _ _ => simp
  have n1 : ((c.toNat : Int) == 43) = false := beq_eq_false_iff_ne.2 (fun e => h43 (UInt8.toNat_inj.1 (by have : (43 : UInt8).toNat = 43 := rfl; omega)))
  have n2 : ((c.toNat : Int) == 45) = false := beq_eq_false_iff_ne.2 (fun e => h45 (UInt8.toNat_inj.1 (by have : (45 : UInt8).toNat = 45 := rfl; omega)))
  have HPI : Hid (Calls Tryd.prog 48 #[.string (S x), .int .i64 10, .int .i64 64] w (NumOut (intOk (Lib.parseIntB 64 x)) w)) := parseint_any x w hl hv
  have hp : pnum x = intOk (Lib.parseIntB 64 x) := by
    have : okNum x = true := by unfold okNum; rw [hle, hhd, decide_eq_false h1]; simp [h43, h45]
    unfold pnum; rw [if_pos this]
  have HP := hide hp
  clear hp hc hhd h43 h45 hv
  go_enter Tryd.func39, Tryd.ntmps39
  go_wp2_with fail
  refine (HPI.out).mono ?_
  rintro e w9 hn
  obtain ⟨(⟨v, hpn, rfl⟩ | ⟨hpn, v, t9, p9, rfl⟩), hb9⟩ := hn.split
  · have HB9 := hide hb9
    have HPP := hide (HP.out.trans hpn)
    clear hb9 hpn
    go_wp2
    refine bodyPost_ret (v := .tuple #[.int .i64 v, .nilIface]) ?_ rfl ?_
    · simp [results, Tryd.f39, go_sem]
    · rw [HPP.out]; exact ⟨rfl, HB9.out⟩
  · have HB9 := hide hb9
    have HPP := hide (HP.out.trans hpn)
    clear hb9 hpn
    go_wp2
    refine bodyPost_ret (v := .tuple #[.int .i64 v, .iface t9 p9]) ?_ rfl ?_
    · simp [results, Tryd.f39, go_sem]
    · rw [HPP.out]; exact ⟨⟨_, _, _, rfl⟩, HB9.out⟩

theorem pnum_any (x : Bs) (w : World) (hl : x.length ≤ 8589934592) (hv : VarsOk w) : Calls Tryd.prog 39 #[.string (S x)] w (NumOut (pnum x) w) := by
  cases he : x.isEmpty
  rotate_left
  · exact pnum_e x w hl hv he
  obtain ⟨c, hc⟩ : ∃ c, x[0]? = some c := by cases x with | nil => cases he | cons c _ => exact ⟨c, rfl⟩
  by_cases h43 : c = 43
  · exact pnum_43 x w hl hv c hc h43
  by_cases h45 : c = 45
  · exact pnum_45 x w hl hv c hc h45
  by_cases h1 : 1 < x.length
  · by_cases h48 : c = 48
    · exact pnum_48 x w hl hv c hc h48 h1
    · exact pnum_k1 x w hl hv c hc h43 h45 h48
  · exact pnum_k2 x w hl hv c hc h43 h45 h1

theorem below_of_eq {w w' : World} (h : w' = w) : Below w.heap.size w w' := by subst h; exact Below.refl _ _
theorem five {w W : World} {ty : TypeId} {x0 x1 x2 x3 x4 y0 y1 y2 y3 y4 : Value} (hk : Blk W w.heap.size ty #[y0, y1, y2, y3, y4]) (hl : Below w.heap.size w W) :
    Blk (((((W.setCell ⟨w.heap.size, 0, none⟩ x0).setCell ⟨w.heap.size, 1, none⟩ x1).setCell ⟨w.heap.size, 2, none⟩ x2).setCell ⟨w.heap.size, 3, none⟩ x3).setCell ⟨w.heap.size, 4, none⟩ x4) w.heap.size ty #[x0, x1, x2, x3, x4] ∧
    Below w.heap.size w (((((W.setCell ⟨w.heap.size, 0, none⟩ x0).setCell ⟨w.heap.size, 1, none⟩ x1).setCell ⟨w.heap.size, 2, none⟩ x2).setCell ⟨w.heap.size, 3, none⟩ x3).setCell ⟨w.heap.size, 4, none⟩ x4) :=
  ⟨((((hk.set_ 0 x0).set_ 1 x1).set_ 2 x2).set_ 3 x3).set_ 4 x4, below_set (below_set (below_set (below_set (below_set hl 0 x0) 1 x1) 2 x2) 3 x3) 4 x4⟩
/-- What Parse hands back: the version and no error, or an error. -/
def ParseOut (t : Bs) (w : World) (e : Ending) (w' : World) : Prop :=
  (match parseT t with
    | some v => e = .returned (.tuple #[.agg v.cells, .nilIface])
    | none => ∃ (v : Ver) (t p : _), e = .returned (.tuple #[.agg v.cells, .iface t p])) ∧ Below w.heap.size w w'
theorem parse_err {t : Bs} {w w' : World} {v : Ver} {cs : Array Value} {te : TypeId} {pe : Value} (h : parseT t = none) (hc : v.cells = cs) (hb : Below w.heap.size w w') : ParseOut t w (.returned (.tuple #[.agg cs, .iface te pe])) w' := by
  unfold ParseOut
  rw [h]
  exact ⟨⟨v, te, pe, by rw [hc]⟩, hb⟩
theorem parse_ok {t : Bs} {w w' : World} {v : Ver} {cs : Array Value} (h : parseT t = some v) (hc : v.cells = cs) (hb : Below w.heap.size w w') : ParseOut t w (.returned (.tuple #[.agg cs, .nilIface])) w' := by
  unfold ParseOut
  rw [h]
  subst hc
  exact ⟨rfl, hb⟩
theorem nums_none {a b c : Bs} (h : pnum a = none ∨ pnum b = none ∨ pnum c = none) : numsI [a, b, c] = none := by
  show (match pnum a, pnum b, pnum c with
    | some x, some y, some z => some (x, y, z)
    | _, _, _ => none) = _
  rcases h with h | h | h <;> rw [h]
  · cases pnum a <;> rfl
  · cases pnum a <;> cases pnum b <;> rfl
theorem nums_ok {a b c : Bs} {x y z : Int} (h1 : pnum a = some x) (h2 : pnum b = some y) (h3 : pnum c = some z) : numsI [a, b, c] = some (x, y, z) := by
  show (match pnum a, pnum b, pnum c with
    | some x, some y, some z => some (x, y, z)
    | _, _, _ => none) = _
  rw [h1, h2, h3]
theorem cut3 (l : Bs) (h : l.count 46 = 2) : dots l = [(cut46 l).1, (cut46 (cut46 l).2).1, (cut46 (cut46 l).2).2] := by
  have hd := dots_count l
  rcases cut_idx l with ⟨_, _, h3⟩ | ⟨k, _, _, h2, h3⟩
  · rw [h3, h] at hd; simp at hd
  · rw [h2]
    rw [h3] at hd ⊢
    generalize l.drop (k + 1) = r at *
    dsimp only
    rcases cut_idx r with ⟨_, _, h6⟩ | ⟨j, _, _, h5, h6⟩
    · rw [h6, h] at hd; simp at hd
    · rw [h5]
      rw [h6] at hd ⊢
      generalize r.drop (j + 1) = z at *
      dsimp only
      rcases cut_idx z with ⟨_, _, h9⟩ | ⟨i, _, _, _, h9⟩
      · rw [h9]
      · rw [h9] at hd
        have : 0 < (dots (z.drop (i + 1))).length := by cases hz : dots (z.drop (i + 1)) with | nil => exact absurd hz (dots_ne _) | cons _ _ => simp
        simp only [List.length_cons] at hd
        omega
theorem parseT_is (t : Bs) (h1 : fnd 43 t = false ∨ identsB (aft 43 t) = true) (h2 : fnd 45 (bef 43 t) = false ∨ (identsB (aft 45 (bef 43 t)) = true ∧ leadingB (aft 45 (bef 43 t)) = false)) :
    parseT t = (numsI (dots (bef 45 (bef 43 t)))).map (fun n => ⟨n.1, n.2.1, n.2.2, aft 45 (bef 43 t), aft 43 t⟩) := by
  unfold parseT
  rw [if_neg (by rcases h1 with h | h <;> rw [h] <;> simp), if_neg (by rcases h2 with h | ⟨h, h'⟩; (rw [h]; simp); (rw [h, h']; simp))]
theorem trim_is (s : Bs) : Lib.trimPrefix s [118] = trimV s := by
  unfold Lib.trimPrefix trimV Lib.hasPrefix
  cases s with
  | nil => rfl
  | cons c r =>
    by_cases h : c = 118
    · subst h; rfl
    · have h1 : (118 == c) = false := beq_eq_false_iff_ne.2 (fun e => h e.symm)
      have h2 : ([118] : Bs).isPrefixOf (c :: r) = false := by simp [List.isPrefixOf, h1]
      rw [h2]
      simp [h]
theorem trim_any (s : Bs) (w : World) : Calls Tryd.prog 33 #[.string (S s), .string ⟨#[118]⟩] w fun e w' => e = .returned (.string (S (trimV s))) ∧ w' = w := by
  have h := Tryd.strings_TrimPrefix (S s) ⟨#[118]⟩ w
  rw [show (S s).data.toList = s by simp [S], show (⟨#[118]⟩ : ByteArray).data.toList = [118] from rfl, trim_is] at h
  exact h

theorem cut_len1 : ∀ l : Bs, (cut46 l).1.length ≤ l.length
  | [] => Nat.le_refl _
  | c :: l => by
    unfold cut46
    have := cut_len1 l
    split
    · simp
    · simp only [List.length_cons]; omega
end Go.Proofs.YtaoeelhgfdknfaaDoor
