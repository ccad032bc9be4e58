/- The walk of semver's AppendString. Under sizes alone. -/
import Derived.Test.YtaoeelhgfdknfaaDoorW24
import Derived.Test.YtaoeelhgfdknfaaDoorW23
import Derived.Deep.RegionHeld3
namespace Go.Proofs.YtaoeelhgfdknfaaDoor
open Go.RowKit
open Go.Lib (decDigits byteCells)

attribute [local go_sem] S_size S_toList E_toList S_extract

theorem Buf.int {B g : Nat} {cs : Array Value} {v : Value} {xs : List Value} {W0 w : World} (h : Buf B g cs v xs W0 w) (m : Nat) (hm : m < 10 ^ 18) (hlen : xs.length + 21 ≤ 140737488355328) :
    Calls Tryd.prog 50 #[v, .int .i64 (m : Int), .int .i64 10] w fun e w' => ∃ v', e = .returned v' ∧ Buf B g cs v' (xs ++ byteCells (decDigits m)) W0 w' := by
  refine (Tryd.strconv_AppendInt_10 B xs.length (m : Int) (by omega) (by omega) v xs w h.own h.le hlen h.tab).mono ?_
  rw [Lib.itoa_nonneg]
  rintro e w' ⟨v', rfl, ho, hb, hk⟩
  have hl : 0 < (decDigits m).length := by rw [Lib.decDigits_length]; exact Lib.nDigits_pos m
  refine ⟨v', rfl, ?_, h.bel.trans hb, Nat.le_trans h.le hb.size, hk g _ h.blk (by simp) (by simp), h.tab.on hb, ?_⟩
  · have e1 : (xs ++ byteCells (decDigits m)).length = xs.length + (decDigits m).length := by simp [byteCells]
    rw [e1]; exact ho
  · rintro rfl
    rcases ho.2 with ⟨_, h0⟩ | ⟨_, _, _, h0, _⟩
    · omega
    · cases h0

theorem byteCells_len (l : Bs) : (byteCells l).length = l.length := by simp [byteCells]

theorem fin_own {B g : Nat} {cs : Array Value} {v : Value} {X : List Value} {W0 w : World} {l : Bs} (h : Buf B g cs v X W0 w) (e : X = byteCells l) : w.ownsRow B 5 1 v l.length (byteCells l) ∧ Below B W0 w := by
  subst e
  refine ⟨?_, h.bel⟩
  have := h.own
  rwa [byteCells_len] at this

theorem S_cells (l : Bs) : Lib.strCells (S l) = byteCells l := rfl


/-- The text of a version, as cells. -/
theorem eqin_nil (d : Nat) (W : World) (a : Addr) (l c : Nat) : (Op.equalIn (d + 1) 64 (.slice (some a) l c) (.slice none 0 0)).run Tryd.prog W = .ok false W := by simp [Op.equalIn, run_underlying Tryd.underlying64]
theorem eql_nil (W : World) (a : Addr) (l c : Nat) : (binOp .eql 64 (.slice (some a) l c) (.slice none 0 0)).run Tryd.prog W = .ok (.bool false) W := by
  have h2 : (Op.equal 64 (.slice (some a) l c) (.slice none 0 0)).run Tryd.prog W = .ok false W := eqin_nil 9999 W a l c
  simp [binOp, h2]

theorem fmt_cells (m n p : Nat) : ((((([] ++ byteCells (decDigits m)) ++ [.int .u8 46]) ++ byteCells (decDigits n)) ++ [.int .u8 46]) ++ byteCells (decDigits p)) = byteCells (numsT m n p) := by
  simp [numsT, byteCells]

set_option linter.unusedVariables false in
set_option linter.unusedSimpArgs false in
set_option maxHeartbeats 2000000 in
set_option maxRecDepth 100000 in
theorem append_any (B r cap m n p : Nat) (pre met : Bs) (w : World) (hown : w.ownsRow B 5 1 (.slice (some ⟨r, 0, none⟩) 0 cap) 0 []) (hB : B ≤ w.heap.size) (htab : Lib.TabBelow Tryd.prog B w "internal/strconv.uint64pow10" .u64 Lib.pow10Tab)
    (hm : m < 10 ^ 18) (hn : n < 10 ^ 18) (hp : p < 10 ^ 18) (h1 : pre.length ≤ 4294967296) (h2 : met.length ≤ 4294967296) :
    Calls Tryd.prog 41 #[.agg #[.int .i64 (m : Int), .int .i64 (n : Int), .int .i64 (p : Int), .string (S pre), .string (S met)], .slice (some ⟨r, 0, none⟩) 0 cap] w fun e w' => ∃ v', e = .returned (.tuple #[v', .nilIface]) ∧ w'.ownsRow B 5 1 v' (numsT m n p ++ preT pre ++ metT met).length (byteCells (numsT m n p ++ preT pre ++ metT met)) ∧ Below B w w' := by
  have hsz : w.heap.size < (w.alloc (.cells #[.int .i64 (m : Int), .int .i64 (n : Int), .int .i64 (p : Int), .string (S pre), .string (S met)] 40)).heap.size := by simp
  have hk0 := Blk.new w 40 #[.int .i64 (m : Int), .int .i64 (n : Int), .int .i64 (p : Int), .string (S pre), .string (S met)]
  have hBuf0 : Buf B w.heap.size #[.int .i64 (m : Int), .int .i64 (n : Int), .int .i64 (p : Int), .string (S pre), .string (S met)] (.slice (some ⟨r, 0, none⟩) 0 cap) [] w (w.alloc (.cells #[.int .i64 (m : Int), .int .i64 (n : Int), .int .i64 (p : Int), .string (S pre), .string (S met)] 40)) :=
    ⟨hown.alloc _, (Below.refl _ _).alloc hB _, Nat.le_trans hB (by simp), hk0, htab.on ((Below.refl _ _).alloc hB _), by simp⟩
  have HBw0 := hide hBuf0
  obtain ⟨a0, a1, a2, a3, a4⟩ := cells5 hk0
  have l1 : (byteCells (decDigits m)).length ≤ 18 := by rw [byteCells_len]; exact dd_len 17 m hm
  have l2 : (byteCells (decDigits n)).length ≤ 18 := by rw [byteCells_len]; exact dd_len 17 n hn
  have l3 : (byteCells (decDigits p)).length ≤ 18 := by rw [byteCells_len]; exact dd_len 17 p hp
  have l4 : (byteCells (numsT m n p)).length ≤ 60 := by rw [← fmt_cells]; simp; omega
  have hfc := fmt_cells m n p
  have hm' := hide hm
  have heq := eql_nil
  have hn' := hide hn
  have hp' := hide hp
  generalize hD1 : byteCells (decDigits m) = D1 at *
  generalize hD2 : byteCells (decDigits n) = D2 at *
  generalize hD3 : byteCells (decDigits p) = D3 at *
  clear hk0 hBuf0 hown hB htab hm hn hp
  go_enter Tryd.func41, Tryd.ntmps41
  go_wp2_with fail
  generalize w.alloc (.cells #[.int .i64 (m : Int), .int .i64 (n : Int), .int .i64 (p : Int), .string (S pre), .string (S met)] 40) = w0 at *
  refine (HBw0.out.int m hm'.out (by simp)).mono ?_
  rw [hD1]
  rintro e w1 ⟨v1, rfl, hb1⟩
  obtain ⟨a0, a1, a2, a3, a4⟩ := cells5 hb1.blk
  have HBw1 := hide hb1
  clear hb1
  go_wp2_with (at_builtin; with_reducible refine wpList_byte rfl rfl _ _ rfl HBw1.out 46 rfl rfl (by simp; omega) ?_)
  intro v2 w2 hb2
  obtain ⟨a0, a1, a2, a3, a4⟩ := cells5 hb2.blk
  have HBw2 := hide hb2
  clear hb2
  go_wp2_with fail
  refine (HBw2.out.int n hn'.out (by simp; omega)).mono ?_
  rw [hD2]
  rintro e w3 ⟨v3, rfl, hb3⟩
  obtain ⟨a0, a1, a2, a3, a4⟩ := cells5 hb3.blk
  have HBw3 := hide hb3
  clear hb3
  go_wp2_with (at_builtin; with_reducible refine wpList_byte rfl rfl _ _ rfl HBw3.out 46 rfl rfl (by simp; omega) ?_)
  intro v4 w4 hb4
  obtain ⟨a0, a1, a2, a3, a4⟩ := cells5 hb4.blk
  have HBw4 := hide hb4
  clear hb4
  go_wp2_with fail
  refine (HBw4.out.int p hp'.out (by simp; omega)).mono ?_
  rw [hD3]
  rintro e w5 ⟨v5, rfl, hb5⟩
  have e5 : D1 ++ Value.int IntKind.u8 46 :: (D2 ++ [Value.int IntKind.u8 46]) ++ D3 = byteCells (numsT m n p) := by rw [← hfc]; simp
  rw [e5] at hb5
  obtain ⟨a0, a1, a2, a3, a4⟩ := cells5 hb5.blk
  have HBw5 := hide hb5
  clear hb5
  generalize hX5 : byteCells (numsT m n p) = X5 at *
  have HX5 : Hid (X5 = byteCells (numsT m n p)) := hX5.symm
  clear hX5
  cases hpe : pre.isEmpty
  rotate_left
  · cases hme : met.isEmpty
    rotate_left
    · go_wp2
      refine bodyPost_ret (v := .tuple #[v5, .nilIface]) ?_ rfl ?_
      · simp [results, Tryd.f41, go_sem]
      exact ⟨_, rfl, fin_own HBw5.out (by rw [HX5.out]; simp [preT, metT, hpe, hme, byteCells, S_cells])⟩
    · go_wp2_with fail
      have HC8 : Hid (w5.drew.cell? ⟨w.heap.size, 4, none⟩ = some (.string (S met))) := by show _ = _; rw [HBw5.out.drew.blk.cell]; rfl
      have hl8 : w.heap.size < w5.heap.size := HBw5.out.blk.lt
      go_region_held3 (fun w' => w'.cell? ⟨w.heap.size, 4, none⟩ = some (.string (S met)))
        (first | with_reducible exact HC8.out | with_reducible assumption | ((with_reducible refine (World.cell?_alloc_lt _ _ _ ?_).trans HC8.out); simpa using hl8) | go_keep)
        (first
          | (refine step_byte (xs := X5) (W0 := w) (B := B) (g := w.heap.size) (cs := #[.int .i64 (m : Int), .int .i64 (n : Int), .int .i64 (p : Int), .string (S pre), .string (S met)]) (by rfl) (by rfl) _ _ (by rfl) HBw5.out.drew 43 (by rfl) (by rfl) (by rfl) (by simp [S_cells, byteCells_len] <;> omega) ?_
             intro v8a w8a hb8a
             have HB8a := hide hb8a
             have hc8a : w8a.cell? ⟨w.heap.size, 4, none⟩ = some (.string (S met)) := by rw [hb8a.blk.cell]; rfl
             clear hb8a)
          | (refine step_text (by rfl) (by rfl) _ _ (by rfl) HB8a.out (S met) (by rfl) (by rfl) (by rw [S_size]; simp [S_cells, byteCells_len] <;> omega) ?_
             intro v8b w8b hb8b
             have hc8b : w8b.cell? ⟨w.heap.size, 4, none⟩ = some (.string (S met)) := by rw [hb8b.blk.cell]; rfl
             obtain ⟨a0, a1, a2, a3, a4⟩ := cells5 hb8b.blk
             have HB8b := hide hb8b
             clear hb8b)
          | fail)
      all_goals
        go_wp2
        refine bodyPost_ret (v := .tuple #[v8b, .nilIface]) ?_ rfl ?_
        · simp [results, Tryd.f41, go_sem]
        exact ⟨_, rfl, fin_own HB8b.out (by rw [HX5.out]; simp [preT, metT, hpe, hme, byteCells, S_cells])⟩
  · go_wp2_with fail
    have HC7 : Hid (w5.drew.cell? ⟨w.heap.size, 3, none⟩ = some (.string (S pre))) := by show _ = _; rw [HBw5.out.drew.blk.cell]; rfl
    have hl7 : w.heap.size < w5.heap.size := HBw5.out.blk.lt
    go_region_held3 (fun w' => w'.cell? ⟨w.heap.size, 3, none⟩ = some (.string (S pre)))
      (first | with_reducible exact HC7.out | with_reducible assumption | ((with_reducible refine (World.cell?_alloc_lt _ _ _ ?_).trans HC7.out); simpa using hl7) | go_keep)
      (first
        | (refine step_byte (xs := X5) (W0 := w) (B := B) (g := w.heap.size) (cs := #[.int .i64 (m : Int), .int .i64 (n : Int), .int .i64 (p : Int), .string (S pre), .string (S met)]) (by rfl) (by rfl) _ _ (by rfl) HBw5.out.drew 45 (by rfl) (by rfl) (by rfl) (by simp [S_cells, byteCells_len] <;> omega) ?_
           intro v7a w7a hb7a
           have HB7a := hide hb7a
           have hc7a : w7a.cell? ⟨w.heap.size, 3, none⟩ = some (.string (S pre)) := by rw [hb7a.blk.cell]; rfl
           clear hb7a)
        | (refine step_text (by rfl) (by rfl) _ _ (by rfl) HB7a.out (S pre) (by rfl) (by rfl) (by rw [S_size]; simp [S_cells, byteCells_len] <;> omega) ?_
           intro v7b w7b hb7b
           have hc7b : w7b.cell? ⟨w.heap.size, 3, none⟩ = some (.string (S pre)) := by rw [hb7b.blk.cell]; rfl
           obtain ⟨a0, a1, a2, a3, a4⟩ := cells5 hb7b.blk
           have HB7b := hide hb7b
           clear hb7b)
        | fail)
    all_goals
      cases hme : met.isEmpty
      rotate_left
      · go_wp2
        refine bodyPost_ret (v := .tuple #[v7b, .nilIface]) ?_ rfl ?_
        · simp [results, Tryd.f41, go_sem]
        exact ⟨_, rfl, fin_own HB7b.out (by rw [HX5.out]; simp [preT, metT, hpe, hme, byteCells, S_cells])⟩
      · go_wp2_with fail
        have HC9 : Hid (w7b.drew.cell? ⟨w.heap.size, 4, none⟩ = some (.string (S met))) := by show _ = _; rw [HB7b.out.drew.blk.cell]; rfl
        have hl9 : w.heap.size < w7b.heap.size := HB7b.out.blk.lt
        go_region_held3 (fun w' => w'.cell? ⟨w.heap.size, 4, none⟩ = some (.string (S met)))
          (first | with_reducible exact HC9.out | with_reducible assumption | ((with_reducible refine (World.cell?_alloc_lt _ _ _ ?_).trans HC9.out); simpa using hl9) | go_keep)
          (first
            | (refine step_byte (xs := (X5 ++ [.int .u8 45] ++ Lib.strCells (S pre))) (W0 := w) (B := B) (g := w.heap.size) (cs := #[.int .i64 (m : Int), .int .i64 (n : Int), .int .i64 (p : Int), .string (S pre), .string (S met)]) (by rfl) (by rfl) _ _ (by rfl) HB7b.out.drew 43 (by rfl) (by rfl) (by rfl) (by simp [S_cells, byteCells_len] <;> omega) ?_
               intro v9a w9a hb9a
               have HB9a := hide hb9a
               have hc9a : w9a.cell? ⟨w.heap.size, 4, none⟩ = some (.string (S met)) := by rw [hb9a.blk.cell]; rfl
               clear hb9a)
            | (refine step_text (by rfl) (by rfl) _ _ (by rfl) HB9a.out (S met) (by rfl) (by rfl) (by rw [S_size]; simp [S_cells, byteCells_len] <;> omega) ?_
               intro v9b w9b hb9b
               have hc9b : w9b.cell? ⟨w.heap.size, 4, none⟩ = some (.string (S met)) := by rw [hb9b.blk.cell]; rfl
               obtain ⟨a0, a1, a2, a3, a4⟩ := cells5 hb9b.blk
               have HB9b := hide hb9b
               clear hb9b)
            | fail)
        all_goals
          go_wp2
          refine bodyPost_ret (v := .tuple #[v9b, .nilIface]) ?_ rfl ?_
          · simp [results, Tryd.f41, go_sem]
          exact ⟨_, rfl, fin_own HB9b.out (by rw [HX5.out]; simp [preT, metT, hpe, hme, byteCells, S_cells])⟩

end Go.Proofs.YtaoeelhgfdknfaaDoor
