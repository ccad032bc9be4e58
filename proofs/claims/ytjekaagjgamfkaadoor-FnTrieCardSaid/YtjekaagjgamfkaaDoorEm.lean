/- The walk of Trie.Entries. Under sizes alone. -/
import Derived.Test.YtjekaagjgamfkaaDoorEn
namespace Go.Proofs.YtjekaagjgamfkaaDoor
open Go.RowKit T
attribute [local go_sem] S_size S_toList E_toList

/-- No block that was there has changed, but rows of entries. -/
def Kept57 (w w' : World) : Prop := ∀ i t cs, Blk w i t cs → t ≠ 57 → Blk w' i t cs

def EntOut (w0 : World) (s : St) (L : List Nat) (w : World) (e : Ending) (w' : World) : Prop :=
  ∃ v, e = .returned v ∧ w'.ownsRow w0.heap.size 57 2 v L.length (enc s L) ∧ Below w0.heap.size w0 w' ∧ Kept57 w w'

set_option linter.unusedSimpArgs false in
set_option linter.unusedVariables false in
set_option maxHeartbeats 1000000 in
theorem entries_any (w0 w : World) (B root M : Nat) (s : St) (R : Nat → Value) (hbase : Base w0 B root M s R) (hbel : Below w0.heap.size w0 w) (hlen : (vals s (M + 1) root).length ≤ 2147483647) :
    Calls Tryd.prog 23 #[.pointer (some ⟨root, 0, none⟩)] w (EntOut w0 s (vals s (M + 1) root) w) := by
  have hmf : ∀ (fn : Fn) (first cap : Array Value) (w : World), (Instr.makeFunc fn first cap).run Tryd.prog w = .ok (.func fn first cap) w := fun _ _ _ _ => rfl
  obtain ⟨d0, hd0, hp0⟩ := hbase.inv.root
  have hB := hide hbase
  have HB := hide hbel
  have HD := hide hd0
  have HP := hide hp0
  have HL := hide hlen
  clear hbase hbel hd0 hp0 hlen
  go_enter Tryd.func23, Tryd.ntmps23
  go_wp2_with fail
  have hb1 : Below w.heap.size w ((w.alloc (.cells #[.slice none 0 0] 54)).alloc (.cells #[.func (.func 29) #[] #[.pointer (some ⟨w.heap.size, 0, none⟩), .pointer (some ⟨w.heap.size + 1, 0, none⟩)]] 67)) := ((Below.refl _ _).alloc (Nat.le_refl _) _).alloc (by simp) _
  have hst : EnSt w0 ((w.alloc (.cells #[.slice none 0 0] 54)).alloc (.cells #[.func (.func 29) #[] #[.pointer (some ⟨w.heap.size, 0, none⟩), .pointer (some ⟨w.heap.size + 1, 0, none⟩)]] 67)) B root M w.heap.size (w.heap.size + 1) s R [] (.slice none 0 0) :=
    ⟨hB.out, HB.out.trans (hb1.mono HB.out.size), (Blk.new w 54 #[.slice none 0 0]).alloc _, World.ownsRow_nil _ _ _ _, Blk.new_ _ _ _ (by simp), HB.out.size, by have := HB.out.size; omega⟩
  have hc := entries1_any w0 B root M w.heap.size (w.heap.size + 1) s R (M + 1) root d0 [] (.slice none 0 0) _ HD.out (by omega) hst (by simpa using HL.out)
  rw [HP.out, List.nil_append] at hc
  have HC := hide hc
  have HB1 := hide hb1
  clear hc hst hb1
  refine HC.out.mono ?_
  clear HC
  rintro _ w4 ⟨rfl, ⟨v4, hs4⟩, hk4⟩
  have e4 : w4.cell? ⟨w.heap.size, 0, none⟩ = some v4 := by rw [hs4.ebk.cell]; rfl
  have HS4 := hide hs4
  have HK4 := hide hk4
  clear hs4 hk4
  go_wp2
  go_ret
  refine ⟨v4, rfl, HS4.out.own, HS4.out.bel, fun i t cs h1 h2 => ?_⟩
  exact HK4.out i t cs (h1.below HB1.out h1.lt) h2 (fun e => by have := h1.lt; omega)
end Go.Proofs.YtjekaagjgamfkaaDoor
