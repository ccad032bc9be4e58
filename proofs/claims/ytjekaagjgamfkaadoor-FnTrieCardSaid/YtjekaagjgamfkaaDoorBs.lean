/- The walks of find$1, slices.BinarySearchFunc at edges, find. Under sizes alone. -/
import Derived.Test.YtjekaagjgamfkaaDoorTm
import Derived.Deep.LoopGhost
import Derived.Lib.Walk
import Derived.Laws.Shifts
namespace Go.Proofs.YtjekaagjgamfkaaDoor
open Go.RowKit T
attribute [local go_sem] S_size S_toList E_toList

theorem hd_at {l : T.Bs} (h : l ≠ []) : ∃ c : UInt8, l[0]? = some c ∧ T.hd l = c.toNat := by
  cases l with
  | nil => exact absurd rfl h
  | cons c l => exact ⟨c, rfl, rfl⟩

set_option linter.unusedSimpArgs false in
set_option maxHeartbeats 400000 in
theorem find1_any (e : Ed) (b : UInt8) (w : World) (he : e.lab ≠ []) :
    Calls Tryd.prog 32 #[.agg #[.string (S e.lab), pv e.tg.nodeP, pv e.tg.leafP], .int .u8 (b.toNat : Int)] w fun r w' => r = .returned (.int .i64 ((T.hd e.lab : Int) - (b.toNat : Int))) ∧ Below w.heap.size w w' := by
  obtain ⟨c, hc, hh⟩ := hd_at he
  have hix : ∀ W : World, (Instr.index 9 (.string (S e.lab)) (.int .i64 0)).run Tryd.prog W = .ok (.int .u8 (c.toNat : Int)) W := index_S (k := 0) hc
  have hb : Below w.heap.size w (w.alloc (.cells #[.string (S e.lab), pv e.tg.nodeP, pv e.tg.leafP] 64)) := (Below.refl _ _).alloc (Nat.le_refl _) _
  have HB := hide hb
  have HH := hide hh
  have h1 := UInt8.toNat_lt c
  have h2 := UInt8.toNat_lt b
  have hx0 : Blk (w.alloc (.cells #[.string (S e.lab), pv e.tg.nodeP, pv e.tg.leafP] 64)) w.heap.size 64 #[.string (S e.lab), pv e.tg.nodeP, pv e.tg.leafP] := Blk.new _ _ _
  have c0 : (w.alloc (.cells #[.string (S e.lab), pv e.tg.nodeP, pv e.tg.leafP] 64)).cell? ⟨w.heap.size, 0, none⟩ = some (.string (S e.lab)) := by rw [hx0.cell]; rfl
  clear hb hc hh hx0
  go_enter Tryd.func32, Tryd.ntmps32
  go_wp2
  go_ret
  exact ⟨by rw [HH.out]; rfl, HB.out⟩

/-- Where a letter goes among the edges. -/
structure Pos (es : List Ed) (b i : Nat) : Prop where
  le : i ≤ es.length
  lo : ∀ e ∈ es.take i, T.hd e.lab < b
  hi : ∀ e ∈ es.drop i, b ≤ T.hd e.lab

theorem sort_at {es : List Ed} (hs : es.Pairwise (fun e f => T.hd e.lab < T.hd f.lab)) {h : Nat} {e : Ed} (he : es[h]? = some e) : (∀ f ∈ es.take (h + 1), T.hd f.lab ≤ T.hd e.lab) ∧ ∀ f ∈ es.drop h, T.hd e.lab ≤ T.hd f.lab := by
  have hp := List.pairwise_iff_getElem.1 hs
  obtain ⟨hl, rfl⟩ := List.getElem?_eq_some_iff.1 he
  constructor
  · intro f hf
    obtain ⟨j, hj⟩ := List.mem_iff_getElem?.1 hf
    rw [List.getElem?_take] at hj
    split at hj
    · rename_i hlt
      obtain ⟨hjl, rfl⟩ := List.getElem?_eq_some_iff.1 hj
      rcases Nat.lt_or_ge j h with h1 | h1
      · exact Nat.le_of_lt (hp j h hjl hl h1)
      · have : j = h := by omega
        subst this; exact Nat.le_refl _
    · cases hj
  · intro f hf
    obtain ⟨j, hj⟩ := List.mem_iff_getElem?.1 hf
    rw [List.getElem?_drop] at hj
    obtain ⟨hjl, rfl⟩ := List.getElem?_eq_some_iff.1 hj
    rcases Nat.eq_zero_or_pos j with h1 | h1
    · subst h1; exact Nat.le_refl _
    · exact Nat.le_of_lt (hp h (h + j) hl hjl (by omega))

/-- What the search finds. -/
def found (es : List Ed) (b i : Nat) : Bool := match es[i]? with | some e => decide (T.hd e.lab = b) | none => false

set_option linter.unusedSimpArgs false in
set_option linter.unusedVariables false in
set_option maxHeartbeats 1000000 in
set_option maxRecDepth 100000 in
theorem search_any (A : Option Addr) (c : Nat) (es : List Ed) (b : UInt8) (w : World) (hr : RdE w A es) (hs : es.Pairwise (fun e f => T.hd e.lab < T.hd f.lab)) (hl : ∀ e ∈ es, e.lab ≠ []) (hn : es.length ≤ 256) :
    Calls Tryd.prog 31 #[.slice A es.length c, .int .u8 (b.toNat : Int), .func (.func 32) #[] #[]] w fun r w' => ∃ i : Nat, r = .returned (.tuple #[.int .i64 (i : Int), .bool (found es b.toNat i)]) ∧ Pos es b.toNat i ∧ Below w.heap.size w w' := by
  have HR := hide hr
  have HS := hide hs
  have HL := hide hl
  clear hr hs hl
  go_enter Tryd.func31, Tryd.ntmps31
  go_wp2
  go_loopw [9, 10] (fun s9 s10 wr => ∃ lo hi : Nat, s9 = .int .i64 lo ∧ s10 = .int .i64 hi ∧ lo ≤ hi ∧ hi ≤ es.length ∧ Hid ((∀ e ∈ es.take lo, T.hd e.lab < b.toNat) ∧ (∀ e ∈ es.drop hi, b.toNat ≤ T.hd e.lab) ∧ Below w.heap.size w wr)) (fun s9 s10 _ => (intOf s10).toNat - (intOf s9).toNat)
  case atStart => exact ⟨0, es.length, rfl, rfl, Nat.zero_le _, Nat.le_refl _, (⟨fun e he => (by cases he), fun e he => (by rw [List.drop_length] at he; cases he), Below.refl _ _⟩ : (∀ e ∈ es.take 0, T.hd e.lab < b.toNat) ∧ (∀ e ∈ es.drop es.length, b.toNat ≤ T.hd e.lab) ∧ Below w.heap.size w w)⟩
  case round =>
    obtain ⟨lo, hi, rfl, rfl, hlh, hin, HI⟩ := hrel
    by_cases hlt : lo < hi
    · obtain ⟨h, hh⟩ : ∃ h, h = (lo + hi) / 2 := ⟨_, rfl⟩
      have hlen : h < es.length := by omega
      obtain ⟨e, he⟩ : ∃ e, es[h]? = some e := ⟨_, List.getElem?_eq_getElem hlen⟩
      obtain ⟨g, hA, hg, c0, c1, c2⟩ := (HR.out.keep HI.out.2.2.size (fun g0 hg0 i => HI.out.2.2.cell (p := ⟨g0, i, none⟩) (by
        obtain ⟨g', e1, h1, _⟩ := HR.out h e he
        rw [e1] at hg0
        have e2 : g' = g0 := by injection hg0 with hg0; injection hg0
        rw [← e2]
        exact h1))) h e he
      subst hA
      have HE := hide he
      have hf1 := find1_any e b wr (HL.out e (List.mem_of_getElem? he))
      have HF1 := hide hf1
      clear he hf1
      have hw1 : ((lo : Int) + (hi : Int)) / 2 = (h : Int) := by omega
      have h1 : lo ≤ h := by omega
      have h2 : h < hi := by omega
      clear hh
      go_wp2_with fail
      refine HF1.out.mono ?_
      rintro r w3 ⟨rfl, hb3⟩
      have HB3 := hide (HI.out.2.2.trans (hb3.mono HI.out.2.2.size))
      clear hb3
      by_cases hlo : T.hd e.lab < b.toNat
      · have hd1 : decide ((T.hd e.lab : Int) - (b.toNat : Int) < 0) = true := decide_eq_true (by omega)
        go_wp2
        go_roundw
        case measure => simp [intOf]; omega
        case rel =>
          refine ⟨h + 1, hi, by go_num, rfl, by omega, hin, ?_⟩
          exact (⟨fun f hf => Nat.lt_of_le_of_lt ((sort_at HS.out HE.out).1 f hf) hlo, HI.out.2.1, HB3.out⟩ : _ ∧ _ ∧ _)
      · have hd1 : decide ((T.hd e.lab : Int) - (b.toNat : Int) < 0) = false := decide_eq_false (by omega)
        go_wp2
        go_roundw
        case measure => simp [intOf]; omega
        case rel =>
          refine ⟨lo, h, rfl, rfl, h1, by omega, ?_⟩
          exact (⟨HI.out.1, fun f hf => Nat.le_trans (Nat.le_of_not_lt hlo) ((sort_at HS.out HE.out).2 f hf), HB3.out⟩ : _ ∧ _ ∧ _)
    · have hlh2 : hi = lo := by omega
      subst hlh2
      have HP : Hid (Pos es b.toNat hi) := ⟨hin, HI.out.1, HI.out.2.1⟩
      by_cases hn2 : hi < es.length
      · obtain ⟨e, he⟩ : ∃ e, es[hi]? = some e := ⟨_, List.getElem?_eq_getElem hn2⟩
        have hfd : found es b.toNat hi = decide (T.hd e.lab = b.toNat) := by unfold found; rw [he]
        obtain ⟨g, hA, hg, c0, c1, c2⟩ := (HR.out.keep HI.out.2.2.size (fun g0 hg0 i => HI.out.2.2.cell (p := ⟨g0, i, none⟩) (by
          obtain ⟨g', e1, h1, _⟩ := HR.out hi e he
          rw [e1] at hg0
          have e2 : g' = g0 := by injection hg0 with hg0; injection hg0
          rw [← e2]
          exact h1))) hi e he
        subst hA
        have hf1 := find1_any e b wr (HL.out e (List.mem_of_getElem? he))
        have HF1 := hide hf1
        have HFD := hide hfd
        clear he hf1 hfd
        go_wp2_with fail
        refine HF1.out.mono ?_
        rintro r w3 ⟨rfl, hb3⟩
        have HB3 := hide (HI.out.2.2.trans (hb3.mono HI.out.2.2.size))
        clear hb3
        by_cases heq : T.hd e.lab = b.toNat
        · have hd1 : decide ((T.hd e.lab : Int) - (b.toNat : Int) = 0) = true := decide_eq_true (by omega)
          go_wp2
          refine bodyPost_ret (v := .tuple #[.int .i64 (hi : Int), .bool true]) ?_ rfl ⟨hi, ?_, HP.out, HB3.out⟩
          · simp [results, Tryd.f31, go_sem]
          · rw [HFD.out, decide_eq_true heq]
        · have hd1 : decide ((T.hd e.lab : Int) - (b.toNat : Int) = 0) = false := decide_eq_false (by omega)
          go_wp2
          refine bodyPost_ret (v := .tuple #[.int .i64 (hi : Int), .bool false]) ?_ rfl ⟨hi, ?_, HP.out, HB3.out⟩
          · simp [results, Tryd.f31, go_sem]; omega
          · rw [HFD.out, decide_eq_false heq]
      · have hfd : found es b.toNat hi = false := by unfold found; rw [List.getElem?_eq_none (by omega)]
        have HFD := hide hfd
        have hnn : decide ((hi : Int) < (es.length : Int)) = false := decide_eq_false (by omega)
        clear hfd
        go_wp2
        refine bodyPost_ret (v := .tuple #[.int .i64 (hi : Int), .bool false]) ?_ rfl ⟨hi, ?_, HP.out, HI.out.2.2⟩
        · simp [results, Tryd.f31, go_sem]
        · rw [HFD.out]

set_option linter.unusedSimpArgs false in
set_option linter.unusedVariables false in
set_option maxHeartbeats 400000 in
/-- find: under a trie in memory. -/
theorem find_any (B root n : Nat) (s : St) (R : Nat → Value) (d : Nd) (b : UInt8) (w : World) (hm : Mem w B s R) (hv : Inv s root) (hd : s.D n = some d) :
    Calls Tryd.prog 25 #[.pointer (some ⟨n, 0, none⟩), .int .u8 (b.toNat : Int)] w fun r w' => ∃ i : Nat, r = .returned (.tuple #[.int .i64 (i : Int), .bool (found d.es b.toNat i)]) ∧ Pos d.es b.toNat i ∧ Below w.heap.size w w' := by
  obtain ⟨A, c, hR, h1, h2, h3⟩ := hm.rd hd
  have hb := hm.node n d hd
  rw [hR] at hb
  have c0 : w.cell? ⟨n, 0, none⟩ = some (.slice A d.es.length c) := by rw [hb.cell]; rfl
  have hs := search_any A c d.es b w h3 (hv.sort n d hd) (fun e he => hv.lab n d e hd he) (hv.few hd)
  have HS := hide hs
  clear hs h3 hb hR hm hv hd
  go_enter Tryd.func25, Tryd.ntmps25
  go_wp2_with fail
  refine HS.out.mono ?_
  rintro r w3 ⟨i, rfl, hp, hb⟩
  have HP := hide hp
  have HB := hide hb
  clear hp hb
  go_wp2
  refine bodyPost_ret (v := .tuple #[.int .i64 (i : Int), .bool (found d.es b.toNat i)]) ?_ rfl ⟨i, rfl, HP.out, HB.out⟩
  simp [results, Tryd.f25, go_sem]
end Go.Proofs.YtjekaagjgamfkaaDoor
