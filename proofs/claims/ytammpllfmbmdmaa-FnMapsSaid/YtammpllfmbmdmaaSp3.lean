/- The walk of spec.equal. Under sizes alone. -/
import Derived.Test.YtammpllfmbmdmaaSp2
import Derived.BigQuiet
import Derived.Deep.QuietTactic
namespace Go.Proofs.Ytammpllfmbmdmaa
open Go.RowKit

theorem findI_cons (q : Int × Int) (l : List (Int × Int)) (k : Int) : findI (q :: l) k = if q.1 = k then some 0 else (findI l k).map (· + 1) := by
  unfold findI
  rw [List.findIdx?_cons]
  by_cases h : q.1 = k <;> simp [h]

/-- A lookup is the value at the place that find finds. -/
theorem find_lookup : ∀ (l : List (Int × Int)) (k : Int), (∀ i, findI l k = some i → ∃ v, l[i]? = some (k, v) ∧ l.lookup k = some v) ∧ (findI l k = none → l.lookup k = none)
  | [], k => ⟨fun i h => (by cases h), fun _ => rfl⟩
  | (a, b) :: l, k => by
    obtain ⟨h1, h2⟩ := find_lookup l k
    rw [findI_cons]
    by_cases hk : a = k
    · subst hk
      simp only [if_true, List.lookup, beq_self_eq_true]
      exact ⟨fun i h => by cases h; exact ⟨b, rfl, rfl⟩, fun h => by cases h⟩
    · have hb : (k == a) = false := beq_eq_false_iff_ne.2 (fun e => hk e.symm)
      simp only [hk, if_false, List.lookup, hb]
      refine ⟨fun i h => ?_, fun h => ?_⟩
      · cases hf : findI l k with
        | none => rw [hf] at h; cases h
        | some j =>
          rw [hf] at h
          cases h
          obtain ⟨v, h3, h4⟩ := h1 j hf
          exact ⟨v, by simpa using h3, h4⟩
      · cases hf : findI l k with
        | none => exact h2 hf
        | some j => rw [hf] at h; cases h

set_option linter.unusedVariables false in
set_option linter.unusedSimpArgs false in
set_option maxHeartbeats 2000000 in
set_option maxRecDepth 100000 in
theorem equal_spec (K1 K2 : Nat → Prop) (A1 A2 : Option Addr) (n1 n2 c1 c2 : Nat) (a b : List (Int × Int)) (w : World) (h1 : PairsIn w K1 A1 n1 c1 a) (h2 : PairsIn w K2 A2 n2 c2 b) (hn1 : n1 ≤ 549755813888) (hn2 : n2 ≤ 549755813888) :
    Calls Try.prog 65 #[.slice A1 n1 c1, .slice A2 n2 c2] w fun e w' => e = .returned (.bool (eqA a b)) ∧ Below w.heap.size w w' := by
  have H1 := hide (h1.more (K' := fun i => i < w.heap.size) (fun _ hi _ => hi))
  have H2 := hide (h2.more (K' := fun i => i < w.heap.size) (fun _ hi _ => hi))
  clear h1 h2
  go_enter Try.func65, Try.ntmps65
  go_wp2
  go_loopw [10] (fun i wr => ∃ j : Nat, j ≤ n1 ∧ i = .int .i64 j ∧ Hid (Below w.heap.size w wr) ∧ Hid (∀ p ∈ a.take j, b.lookup p.1 = some p.2)) (fun i _ => n1 - (intOf i).toNat)
  case atStart => exact ⟨0, Nat.zero_le _, rfl, Below.refl _ _, by simp [Hid]⟩
  case round =>
    obtain ⟨j, hj, rfl, hb, hal⟩ := hrel
    by_cases hlt : j < n1
    · obtain ⟨ad, q, rfl, hq, hl, e1, e2⟩ := (H1.out.keep hb.out.size (fun p hp _ => hb.out.cell hp)).at_ hlt
      have HQ := hide hq
      have hbA : Below w.heap.size w (wr.alloc (.cells #[.int .i64 q.1, .int .i64 q.2] 91)) := hb.out.alloc hb.out.size _
      have hx0 : Blk (wr.alloc (.cells #[.int .i64 q.1, .int .i64 q.2] 91)) wr.heap.size 91 #[.int .i64 q.1, .int .i64 q.2] := Blk.new _ _ _
      have hf := find_any _ A2 n2 c2 b q.1 _ (H2.out.keep hbA.size (fun p hp _ => hbA.cell hp)) hn2
      have HF := hide hf
      have HBA := hide hbA
      have HX := hide hx0
      clear hq hbA hx0 hf
      go_wp2_with fail
      generalize wr.alloc (.cells #[.int .i64 q.1, .int .i64 q.2] 91) = w1 at *
      refine HF.out.mono ?_
      rintro e w2 ⟨rfl, hb2⟩
      have hx2 := HX.out.below hb2 HX.out.lt
      have x0 : w2.cell? ⟨wr.heap.size, 0, none⟩ = some (.int .i64 q.1) := by rw [hx2.cell]; rfl
      have x1 : w2.cell? ⟨wr.heap.size, 1, none⟩ = some (.int .i64 q.2) := by rw [hx2.cell]; rfl
      have HB2 := hide (HBA.out.trans (hb2.mono HBA.out.size))
      clear hb2 hx2 e1 e2
      have hno : ∀ {z : Bool}, ¬ b.lookup q.1 = some q.2 → eqA a b = false := fun hne => by
        unfold eqA
        have : a.any (fun q => !decide (b.lookup q.1 = some q.2)) = true := List.any_eq_true.2 ⟨q, List.mem_of_getElem? HQ.out, by simp [hne]⟩
        rw [this]; simp
      cases hfi : findI b q.1 with
      | none =>
        have hfz : findZ b q.1 = -1 := by unfold findZ; rw [hfi]
        have hlk := (find_lookup b q.1).2 hfi
        have hres := hno (z := true) (by rw [hlk]; simp)
        rw [hfz]
        clear hfz hfi hno
        go_wp2_with fail
        go_quiet (fail)
        go_wp2
        go_ret
        exact ⟨by rw [hres]; rfl, HB2.out.trans (((Chg.refl (fun _ => False) w2).drewN _).below HB2.out.size (fun _ h => h.elim))⟩
      | some i =>
        have hfz : findZ b q.1 = (i : Int) := by unfold findZ; rw [hfi]
        obtain ⟨v, hbi, hlk⟩ := (find_lookup b q.1).1 i hfi
        have hin : i < n2 := by
          have := (List.getElem?_eq_some_iff.1 hbi).1
          have := H2.out.len
          omega
        obtain ⟨ad2, q2, rfl, hq2, hl2, g1, g2⟩ := (H2.out.keep HB2.out.size (fun p hp _ => HB2.out.cell hp)).at_ hin
        obtain rfl := Option.some.inj (hq2.symm.trans hbi)
        have hnn : ¬ (i : Int) < 0 := by omega
        have hnn2 : decide ((i : Int) < 0) = false := decide_eq_false hnn
        have hi0 : (0 : Int) ≤ (i : Int) := by omega
        have hil : (i : Int) < (n2 : Int) := by omega
        rw [hfz]
        clear hfz hfi hq2 hbi
        by_cases hv : v = q.2
        · subst hv
          have HLK := hide hlk
          clear hno hlk
          go_wp2_with fail
          go_quiet (fail)
          go_wp2
          go_roundw
          case rel =>
            refine ⟨j + 1, by omega, by go_num, HB2.out.trans (((Chg.refl (fun _ => False) w2).drewN _).below HB2.out.size (fun _ h => h.elim)), ?_⟩
            show ∀ p ∈ a.take (j + 1), b.lookup p.1 = some p.2
            intro p hp
            rw [List.take_add_one, HQ.out] at hp
            rcases List.mem_append.1 hp with hp | hp
            · exact hal.out p hp
            · have : p = q := by simpa using hp
              rw [this]; exact HLK.out
          case measure => simp [intOf]; omega
        · have hres := hno (z := true) (by rw [hlk]; simpa using hv)
          have hv2 : (v == q.2) = false := beq_eq_false_iff_ne.2 hv
          have hv3 : decide (v = q.2) = false := decide_eq_false hv
          clear hno hlk
          go_wp2_with fail
          go_quiet (fail)
          go_wp2
          go_ret
          exact ⟨by rw [hres]; rfl, HB2.out.trans (((Chg.refl (fun _ => False) w2).drewN _).below HB2.out.size (fun _ h => h.elim))⟩
    · have hl := H1.out.len
      have hl2 := H2.out.len
      have hal1 := hal.out
      rw [List.take_of_length_le (by omega)] at hal1
      have hany : a.any (fun q => !decide (b.lookup q.1 = some q.2)) = false := List.any_eq_false.2 (fun p hp => by simp [hal1 p hp])
      have hres : eqA a b = decide (n1 = n2) := by
        unfold eqA
        rw [hany, hl, hl2]; simp
      go_wp2
      go_ret
      refine ⟨?_, hb.out⟩
      rw [hres]
      by_cases he : n1 = n2
      · subst he; simp
      · have he2 : ¬ (n1 : Int) = (n2 : Int) := by omega
        simp [he, he2]
end Go.Proofs.Ytammpllfmbmdmaa
