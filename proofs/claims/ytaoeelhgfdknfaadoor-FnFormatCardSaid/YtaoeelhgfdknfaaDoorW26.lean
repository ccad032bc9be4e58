/- The walks of semver's String and of the package's Format. Under sizes alone. -/
import Derived.Test.YtaoeelhgfdknfaaDoorW25
import Derived.OwnWalk
import Derived.Laws.IdiomStrings
namespace Go.Proofs.YtaoeelhgfdknfaaDoor
open Go.RowKit
open Go.Lib (decDigits byteCells)

attribute [local go_sem] S_size S_toList E_toList S_extract

theorem conv_own {B : Nat} {v : Value} {l : Bs} {w : World} (h : w.ownsRow B 5 1 v l.length (byteCells l)) (hl : 0 < l.length) : (convert 64 9 v).run Tryd.prog w = .ok (.string (S l)) w := by
  rcases h.2 with ⟨_, h0⟩ | ⟨g, cap, cur, rfl, _, _, _⟩
  · omega
  · have hc := h.cells (g := g) rfl
    exact run_convert_bytes_back (P := Tryd.prog) w 64 9 5 ⟨g, 0, none⟩ cap l Tryd.underlying64 Tryd.underlying5 Tryd.underlying9 (by
      intro j hj
      refine hc j _ ?_
      simp [byteCells, hj])

set_option linter.unusedVariables false in
set_option maxHeartbeats 2000000 in
set_option maxRecDepth 100000 in
theorem string_any (m n p : Nat) (pre met : Bs) (w : World) (htab : Lib.TabBelow Tryd.prog w.heap.size w "internal/strconv.uint64pow10" .u64 Lib.pow10Tab)
    (hm : m < 10 ^ 18) (hn : n < 10 ^ 18) (hp : p < 10 ^ 18) (h1 : pre.length ≤ 4294967296) (h2 : met.length ≤ 4294967296) :
    Calls Tryd.prog 28 #[.agg #[.int .i64 (m : Int), .int .i64 (n : Int), .int .i64 (p : Int), .string (S pre), .string (S met)]] w fun e w' => e = .returned (.string (S (numsT m n p ++ preT pre ++ metT met))) ∧ Below w.heap.size w w' := by
  have hk0 := Blk.new w 40 #[.int .i64 (m : Int), .int .i64 (n : Int), .int .i64 (p : Int), .string (S pre), .string (S met)]
  have hl0 : Below w.heap.size w (w.alloc (.cells #[.int .i64 (m : Int), .int .i64 (n : Int), .int .i64 (p : Int), .string (S pre), .string (S met)] 40)) := (Below.refl _ _).alloc (Nat.le_refl _) _
  have HL0 := hide hl0
  have HK0 := hide hk0
  have hlen := fun W => length_any m n p pre met W hm hn hp h1 h2
  have happ := fun B r cap W ho hB ht => append_any B r cap m n p pre met W ho hB ht hm hn hp h1 h2
  have HLEN := hide hlen
  have HAPP := hide happ
  have HT := hide htab
  obtain ⟨i0, hi, hz, hs, hby⟩ := info_parts info5u
  have hpos : Hid (0 < (numsT m n p ++ preT pre ++ metT met).length) := by
    show 0 < _
    have := Lib.nDigits_pos m
    simp [numsT]; omega
  obtain ⟨a0, a1, a2, a3, a4⟩ := cells5 hk0
  clear hk0 hl0 hlen happ htab hm hn hp h1 h2
  generalize hX : numsT m n p ++ preT pre ++ metT met = X at *
  clear hX
  go_enter Tryd.func28, Tryd.ntmps28
  go_wp2_with fail
  generalize w.alloc (.cells #[.int .i64 (m : Int), .int .i64 (n : Int), .int .i64 (p : Int), .string (S pre), .string (S met)] 40) = w0 at *
  refine (HLEN.out _).mono ?_
  rintro e w1 ⟨⟨L, hL0, hL1, rfl⟩, hb1⟩
  have HK1 := hide (HK0.out.below hb1 HK0.out.lt)
  have HL1 := hide (HL0.out.trans (hb1.mono HL0.out.size))
  clear hb1
  go_wp2_with (at_make; refine wpList_make_own _ rfl _ _ 64 rfl w.heap.size 5 i0 (.int .u8 0) 1 Tryd.underlying64 hi hz hs _ _ L L.toNat rfl rfl (by omega) (by rw [hby]; omega) (by unfold maxLen; omega) HL1.out.size ?_)
  intro w2 hown hg
  have HK2 : Hid (Blk w2 w.heap.size 40 #[.int .i64 (m : Int), .int .i64 (n : Int), .int .i64 (p : Int), .string (S pre), .string (S met)]) := (hg.block _ HK1.out.lt (by simp)).trans HK1.out
  have HL2 := hide (HL1.out.grown hg HL1.out.size (fun k hk => by cases hk))
  have HO := hide hown
  clear hown hg
  obtain ⟨a0, a1, a2, a3, a4⟩ := cells5 HK2.out
  go_wp2_with fail
  refine (HAPP.out w.heap.size _ _ _ HO.out HL2.out.size (HT.out.on HL2.out)).mono ?_
  rintro e w3 ⟨v3, rfl, hown, hb⟩
  have HL3 := hide (HL2.out.trans hb)
  have hcv := conv_own hown hpos.out
  clear hown hb
  go_wp2
  go_ret
  exact ⟨rfl, HL3.out⟩

set_option linter.unusedVariables false in
set_option maxHeartbeats 2000000 in
set_option maxRecDepth 100000 in
theorem format_any (m n p : Nat) (pre met : Bs) (w : World) (htab : Lib.TabBelow Tryd.prog w.heap.size w "internal/strconv.uint64pow10" .u64 Lib.pow10Tab)
    (hm : m < 10 ^ 18) (hn : n < 10 ^ 18) (hp : p < 10 ^ 18) (h1 : pre.length ≤ 4294967296) (h2 : met.length ≤ 4294967296) :
    Calls Tryd.prog 14 #[.agg #[.int .i64 (m : Int), .int .i64 (n : Int), .int .i64 (p : Int), .string (S pre), .string (S met)]] w fun e w' => e = .returned (.string (S (numsT m n p ++ preT pre ++ metT met))) ∧ Below w.heap.size w w' := by
  have hk0 := Blk.new w 23 #[.int .i64 (m : Int), .int .i64 (n : Int), .int .i64 (p : Int), .string (S pre), .string (S met)]
  have hl0 : Below w.heap.size w (w.alloc (.cells #[.int .i64 (m : Int), .int .i64 (n : Int), .int .i64 (p : Int), .string (S pre), .string (S met)] 23)) := (Below.refl _ _).alloc (Nat.le_refl _) _
  have HL0 := hide hl0
  have hof := fun W => of_any ⟨(m : Int), (n : Int), (p : Int), pre, met⟩ W
  unfold Ver.cells at hof
  have HOF := hide hof
  have hst := fun W ht => string_any m n p pre met W ht hm hn hp h1 h2
  have HST := hide hst
  have HT : Hid (∀ W, Below w.heap.size w W → Lib.TabBelow Tryd.prog W.heap.size W "internal/strconv.uint64pow10" .u64 Lib.pow10Tab) := fun W hW => Lib.tabBelow_of_tabIs (htab.on hW).here
  obtain ⟨a0, a1, a2, a3, a4⟩ := cells5 hk0
  clear hk0 hl0 hof hst htab hm hn hp h1 h2
  generalize hX : numsT m n p ++ preT pre ++ metT met = X at *
  clear hX
  go_enter Tryd.func14, Tryd.ntmps14
  go_wp2_with fail
  generalize w.alloc (.cells #[.int .i64 (m : Int), .int .i64 (n : Int), .int .i64 (p : Int), .string (S pre), .string (S met)] 23) = w0 at *
  refine (HOF.out _).mono ?_
  rintro e w1 ⟨rfl, hb1⟩
  have HL1 := hide (HL0.out.trans (hb1.mono HL0.out.size))
  clear hb1
  go_wp2_with fail
  refine (HST.out _ (HT.out _ HL1.out)).mono ?_
  rintro e w2 ⟨rfl, hb2⟩
  have HL2 := hide (HL1.out.trans (hb2.mono HL1.out.size))
  clear hb2
  go_wp2
  go_ret
  exact ⟨rfl, HL2.out⟩

end Go.Proofs.YtaoeelhgfdknfaaDoor
