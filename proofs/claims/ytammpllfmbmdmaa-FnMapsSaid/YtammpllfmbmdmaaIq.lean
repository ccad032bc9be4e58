/- The walk of impl.Queue: it lays its variables and runs a machine. -/
import Derived.Test.YtammpllfmbmdmaaQ0
import Derived.Test.YtammpllfmbmdmaaQ1
namespace Go.Proofs.Ytammpllfmbmdmaa
open Go.RowKit

theorem qinv_base {Qu : World → (Nat → Prop) → Nat → List Value → Prop} {kind : Int} {B kb lv lt L : Nat} {rev : Bool} {w : World} {l : List Int} {F : Nat → Prop} (h : QInv Qu kind B kb lv lt L rev w l F) : B ≤ w.heap.size := by
  have := h.2.2.2.2.2 kb h.2.2.2.1
  omega

theorem mach0_ok (B kb lv fv sv gv L : Nat) : (mach0 B kb lv fv sv gv L).Ok := by
  intro x F s LA lc w hg hI hs
  have hB := qinv_base hI
  obtain ⟨h0, h6, hl⟩ := hg
  have : s.what = 0 ∨ s.what = 1 ∨ s.what = 2 ∨ s.what = 3 ∨ s.what = 4 ∨ s.what = 5 ∨ s.what = 6 := by omega
  rcases this with h | h | h | h | h | h | h
  · exact queue0_0 B kb lv fv sv gv L x F s LA lc w hB hl hI h
  · exact queue0_1 B kb lv fv sv gv L x F s LA lc w hB hl hI h
  · exact queue0_2 B kb lv fv sv gv L x F s LA lc w hB hl hI h
  · exact queue0_3 B kb lv fv sv gv L x F s LA lc w hB hl hI h
  · exact queue0_4 B kb lv fv sv gv L x F s LA lc w hB hl hI h
  · exact queue0_5 B kb lv fv sv gv L x F s LA lc w hB hl hI h
  · exact queue0_6 B kb lv fv sv gv L x F s LA lc w hB hl hI h

theorem mach1_ok (B kb lv fv sv gv L : Nat) : (mach1 B kb lv fv sv gv L).Ok := by
  intro x F s LA lc w hg hI hs
  have hB := qinv_base hI
  obtain ⟨h0, h6, hl⟩ := hg
  have : s.what = 0 ∨ s.what = 1 ∨ s.what = 2 ∨ s.what = 3 ∨ s.what = 4 ∨ s.what = 5 ∨ s.what = 6 := by omega
  rcases this with h | h | h | h | h | h | h
  · exact queue1_0 B kb lv fv sv gv L x F s LA lc w hB hl hI h
  · exact queue1_1 B kb lv fv sv gv L x F s LA lc w hB hl hI h
  · exact queue1_2 B kb lv fv sv gv L x F s LA lc w hB hl hI h
  · exact queue1_3 B kb lv fv sv gv L x F s LA lc w hB hl hI h
  · exact queue1_4 B kb lv fv sv gv L x F s LA lc w hB hl hI h
  · exact queue1_5 B kb lv fv sv gv L x F s LA lc w hB hl hI h
  · exact queue1_6 B kb lv fv sv gv L x F s LA lc w hB hl hI h

set_option maxHeartbeats 400000 in
theorem lifo_made (w : World) : Calls Try.prog 24 #[.slice none 0 0] w fun e w' => e = .returned (.pointer (some ⟨w.heap.size, 0, none⟩)) ∧ w' = w.alloc (.cells #[.pointer none, .int .i64 0] 111) := by
  go_enter Try.func24, Try.ntmps24
  go_wp2
  refine wp_loop_rounds 1 ?_
  rw [rounds_succ]
  go_wp2
  go_ret
  exact ⟨rfl, rfl⟩
set_option maxHeartbeats 400000 in
theorem fifo_made (w : World) : Calls Try.prog 25 #[.slice none 0 0] w fun e w' => e = .returned (.pointer (some ⟨w.heap.size, 0, none⟩)) ∧ w' = w.alloc (.cells #[.pointer none, .pointer none, .int .i64 0] 113) := by
  go_enter Try.func25, Try.ntmps25
  go_wp2
  refine wp_loop_rounds 1 ?_
  rw [rounds_succ]
  go_wp2
  go_ret
  exact ⟨rfl, rfl⟩

/-- The variables of impl.Queue, laid from block s on. -/
structure QW (s : Nat) (kind : Int) (W : World) : Prop where
  size : W.heap.size = s + 7
  k : Blk W s 3 #[.int .i64 kind]
  l : Blk W (s + 1) 111 #[.pointer none, .int .i64 0]
  f : Blk W (s + 2) 113 #[.pointer none, .pointer none, .int .i64 0]
  lv : Blk W (s + 3) 54 #[.pointer (some ⟨s + 1, 0, none⟩)]
  fv : Blk W (s + 4) 56 #[.pointer (some ⟨s + 2, 0, none⟩)]
  sv : Blk W (s + 5) 59 #[.slice none 0 0]
  gv : Blk W (s + 6) 63 #[.slice none 0 0]

/-- What impl.Queue hands back. -/
def QOut (L : List AnsD) (w : World) (e : Ending) (w' : World) : Prop :=
  ∃ A c, e = .returned (.slice A L.length c) ∧ L.length ≤ maxLen ∧ AnsIn w' A L.length L ∧ Below w.heap.size w w'

set_option maxHeartbeats 1000000 in
theorem queue_walk {σ : Type} (M : Mach σ) (hM : M.Ok) (x0 : σ) (kind : Int) (A : Option Addr) (k c : Nat) (S : List StepD) (w : World) (hid : M.id = 27)
    (hcaps : M.caps = #[.pointer (some ⟨w.heap.size, 0, none⟩), .pointer (some ⟨w.heap.size + 3, 0, none⟩), .pointer (some ⟨w.heap.size + 4, 0, none⟩), .pointer (some ⟨w.heap.size + 5, 0, none⟩), .pointer (some ⟨w.heap.size + 6, 0, none⟩)])
    (hB : M.B = w.heap.size) (hinv : ∀ W, QW w.heap.size kind W → ∃ F, M.Inv W x0 F) (hs : StepsIn w (fun _ => True) A k S) (hk : k ≤ 2147483647) (hgood : M.allGood x0 S) :
    Calls Try.prog 15 #[.int .i64 kind, .slice A k c] w (QOut (M.outs x0 S) w) := by
  have hmf : ∀ (fn : Fn) (first cap : Array Value) (w : World), (Instr.makeFunc fn first cap).run Try.prog w = .ok (.func fn first cap) w := fun _ _ _ _ => rfl
  have hall : ∀ W : World, W = (((((((w.alloc (.cells #[.int .i64 kind] 3)).alloc (.cells #[.pointer none, .int .i64 0] 111)).alloc (.cells #[.pointer none, .pointer none, .int .i64 0] 113)).alloc (.cells #[.pointer (some ⟨w.heap.size + 1, 0, none⟩)] 54)).alloc (.cells #[.pointer (some ⟨w.heap.size + 1 + 1, 0, none⟩)] 56)).alloc (.cells #[.slice none 0 0] 59)).alloc (.cells #[.slice none 0 0] 63)) →
      QW w.heap.size kind W ∧ Below w.heap.size w W := by
    rintro W rfl
    refine ⟨⟨by simp, ?_, ?_, ?_, ?_, ?_, ?_, ?_⟩, (((((((Below.refl _ _).alloc (Nat.le_refl _) _).alloc (by simp) _).alloc (by simp; omega) _).alloc (by simp; omega) _).alloc (by simp; omega) _).alloc (by simp; omega) _).alloc (by simp; omega) _⟩
    · exact ((((((Blk.new_ _ _ _ rfl).alloc _).alloc _).alloc _).alloc _).alloc _).alloc _
    · exact (((((Blk.new_ _ _ _ (by simp)).alloc _).alloc _).alloc _).alloc _).alloc _
    · exact ((((Blk.new_ _ _ _ (by simp)).alloc _).alloc _).alloc _).alloc _
    · exact (((Blk.new_ _ _ _ (by simp)).alloc _).alloc _).alloc _
    · exact ((Blk.new_ _ _ _ (by simp)).alloc _).alloc _
    · exact (Blk.new_ _ _ _ (by simp)).alloc _
    · exact Blk.new_ _ _ _ (by simp)
  have HS := hide hs.old
  have HK := hide hk
  have HG := hide hgood
  have HINV := hide hinv
  have HM := hide hM
  have HB := hide hB
  have HID := hide hid
  have HCAPS := hide hcaps
  clear hs hk hgood hinv hM hB hid hcaps
  go_enter Try.func15, Try.ntmps15
  go_wp2_with fail
  refine (lifo_made _).mono ?_
  rintro e w1 ⟨rfl, rfl⟩
  go_wp2_with fail
  refine (fifo_made _).mono ?_
  rintro e w1 ⟨rfl, rfl⟩
  go_wp2_with fail
  generalize hW : (((((((w.alloc (.cells #[.int .i64 kind] 3)).alloc (.cells #[.pointer none, .int .i64 0] 111)).alloc (.cells #[.pointer none, .pointer none, .int .i64 0] 113)).alloc (.cells #[.pointer (some ⟨w.heap.size + 1, 0, none⟩)] 54)).alloc (.cells #[.pointer (some ⟨w.heap.size + 1 + 1, 0, none⟩)] 56)).alloc (.cells #[.slice none 0 0] 59)).alloc (.cells #[.slice none 0 0] 63)) = W
  obtain ⟨hqw, hbw⟩ := hall W hW.symm
  clear hW hall
  obtain ⟨F, hI⟩ := HINV.out W hqw
  have hsW : StepsIn W (fun i => i < M.B) A k S := by
    rw [HB.out]
    exact HS.out.keep hbw.size (fun p hp _ => hbw.cell hp)
  have hrun := run_any M HM.out x0 F A k c S W hI hsW HK.out HG.out (by rw [HB.out]; exact hbw.size)
  rw [HID.out, HCAPS.out] at hrun
  have HBW := hide hbw
  clear hI hsW hqw hbw
  refine hrun.mono ?_
  clear hrun
  rintro e w2 ⟨v, P, F', rfl, hout, hmap, hcg⟩
  obtain ⟨RA, rc, rfl, hm, hans⟩ := hout.ansIn
  have hfin : Hid (QOut (M.outs x0 S) w (.returned (.slice RA P.length rc)) w2) := by
    have hl : P.length = (M.outs x0 S).length := by rw [← hmap, List.length_map]
    refine ⟨RA, rc, by rw [hl], by omega, by rw [← hl, ← hmap]; exact hans, HBW.out.trans (hcg.below HBW.out.size (fun i hi => by have := HB.out; omega))⟩
  clear hout hmap hcg hans hm
  go_wp2
  go_ret
  exact hfin.out
end Go.Proofs.Ytammpllfmbmdmaa
