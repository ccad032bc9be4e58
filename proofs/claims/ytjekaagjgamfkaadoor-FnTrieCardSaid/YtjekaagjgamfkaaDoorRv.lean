/- The walks of reverse functions: opatrie.Reverse and spec.Turned turn a text (as in another seat of ours) round byte by byte. No condition. -/
import Derived.Test.YtjekaagjgamfkaaDoorTs
import Derived.WalkKit
import Derived.WalkLawsBesides
import Derived.WalkSpells
import Derived.Deep.LoopGhost
import Derived.Lib.Walk
import Derived.Sort.WalkB12
import Derived.Lib.SlicesMore
import Derived.Lib.Hide
namespace Go.Proofs.YtjekaagjgamfkaaDoor
open Go.RowKit Go.Lib Go.Sort

def encB (c : UInt8) : Value := .int .u8 c.toNat

set_option maxHeartbeats 1600000 in
set_option maxRecDepth 1000000 in
theorem reverse_arr (blk off cap : Nat) (d : Array UInt8) (w : World) (hH : Holds encB w blk off d) (hsz : d.size ≤ 9223372036854775807) :
    Calls Tryd.prog 30 #[.slice (some ⟨blk, off, none⟩) d.size cap] w fun e w' => e = .returned (.tuple #[]) ∧ ∃ n, w' = putRow encB (Sort.ahead w n) blk off d.reverse := by
  go_enter Tryd.func30, Tryd.ntmps30
  go_wp2
  go_loopg [2, 3] d.size (fun k s2 s3 wr => ∃ (i jn : Nat) (jz : Int) (dk : Array UInt8) (n : Nat), s2 = .int .i64 i ∧ s3 = .int .i64 jz ∧ ((i : Int) < jz → jz = jn ∧ jn < d.size) ∧ (¬ (i : Int) < jz → ¬ i < jn) ∧ jn - i ≤ k ∧
    dk.size = d.size ∧ wr = putRow encB (Sort.ahead w n) blk off dk ∧ reverseLoop i jn dk = reverseLoop 0 (d.size - 1) d)
  case atStart => exact ⟨0, d.size - 1, (d.size : Int) - 1, d, 0, rfl, rfl, fun h => ⟨by omega, by omega⟩, fun h => by omega, by omega, rfl, (putRow_self encB w blk off d hH).symm, rfl⟩
  case round =>
    obtain ⟨i, jn, jz, dk, n, rfl, rfl, h1, h2, hk, hds, hwr, heq⟩ := hrel
    by_cases hlt : (i : Int) < jz
    · obtain ⟨rfl, hjn⟩ := h1 hlt
      have hij : i < jn := by omega
      have hHk : Holds encB wr blk off dk := by rw [hwr]; exact holds_putRow encB _ blk off d dk (holds_ahead encB w n blk off d hH) hds
      obtain ⟨ci, fi⟩ := hHk i (by omega)
      obtain ⟨cj, fj⟩ := hHk jn (by omega)
      simp only [encB] at ci cj
      have A : Hid (wr = putRow encB (Sort.ahead w n) blk off dk) := hwr
      clear hwr hHk hH h1 h2
      go_wp2_with fail
      go_region
      go_wp2
      go_roundg (jn - 1 - (i + 1))
      case measure => omega
      case rel =>
        rw [reverseLoop, if_pos hij] at heq
        exact ⟨i + 1, jn - 1, (jn : Int) - 1, swp dk i jn, n + 1, by simp, rfl, fun h => ⟨by omega, by omega⟩, fun h => by omega, Nat.le_refl _, by rw [size_swp]; exact hds,
          swap_world encB (by omega) (by omega) A.out (by first | rfl | simp [encB, getElem!_pos, show jn < dk.size by omega]) (by first | rfl | simp [encB, getElem!_pos, show i < dk.size by omega]), heq⟩
    · have hnot := h2 hlt
      go_wp2
      go_end0
      refine ⟨rfl, n, ?_⟩
      rw [reverseLoop, if_neg hnot] at heq
      rw [← Lib.reverseLoop_reverse, ← heq]

theorem holds_bytesRow (w : World) (s : ByteArray) (cap : Nat) (e : TypeId) :
    Holds encB (w.alloc (.cells (bytesRow s cap) e ((bytesRow s cap).size, (bytesRow s cap).size + 1))) w.heap.size 0 s.data := by
  intro j hj
  rw [Nat.zero_add]
  refine ⟨?_, ?_⟩
  · rw [World.cell?_alloc_mark, bytesRow_at s cap j hj, getElem!_pos s.data j hj]
    rfl
  · rw [World.frozen?_alloc_mark]
    have h2 : s.size = s.data.size := rfl
    have : j < (bytesRow s cap).size := by simp [bytesRow]; omega
    simp; omega

theorem below_putRow {α : Type} [Inhabited α] (enc : α → Value) (w : World) (blk off : Nat) (d : Array α) (B : Nat) (h : B ≤ blk) : Below B w (putRow enc w blk off d) := by
  refine ⟨rfl, rfl, rfl, by simp [putRow, mapBlock], fun k hk => ?_⟩
  simp only [putRow, mapBlock, Array.getElem?_modify]
  rw [if_neg (by omega)]

/-- The contract of slices.Reverse at bytes, over a world of which only facts are told. -/
theorem reverse_any (blk off cap n : Nat) (d : Array UInt8) (w : World) (hn : n = d.size) (hH : Holds encB w blk off d) (hsz : d.size ≤ 9223372036854775807) :
    Calls Tryd.prog 30 #[.slice (some ⟨blk, off, none⟩) n cap] w fun e w' => e = .returned (.tuple #[]) ∧ Holds encB w' blk off d.reverse ∧ Below blk w w' := by
  subst hn
  refine (reverse_arr blk off cap d w hH hsz).mono ?_
  rintro e w' ⟨rfl, n, rfl⟩
  refine ⟨rfl, ?_, ?_⟩
  · exact holds_putRow encB _ blk off d d.reverse (holds_ahead encB w n blk off d hH) (by simp)
  · have h : Below blk w (Sort.ahead w n) := ⟨rfl, rfl, rfl, Nat.le_refl _, fun _ _ => rfl⟩
    exact h.trans (below_putRow encB _ blk off _ blk (Nat.le_refl _))

set_option maxHeartbeats 400000 in
theorem trie_reverse (s : ByteArray) (w : World) (hs : s.size ≤ maxLen) :
    Calls Tryd.prog 24 #[.string s] w fun e w' => e = .returned (.string ⟨s.data.reverse⟩) ∧ Below w.heap.size w w' := by
  unfold maxLen at hs
  have hconv := run_bytes_of_string (P := Tryd.prog) w 9 58 5 s Tryd.underlying9 Tryd.underlying58 Tryd.underlying5
  have hh := holds_bytesRow w.drew s (grownCap w s.size 0 5) 5
  go_enter Tryd.func24, Tryd.ntmps24
  go_wp2_with fail
  refine (reverse_any _ _ _ _ s.data _ rfl hh (by show s.size ≤ _; omega)).mono ?_
  rintro e w' ⟨rfl, hH, hb⟩
  have hback := run_convert_bytes_back (P := Tryd.prog) w' 58 9 5 ⟨w.heap.size, 0, none⟩ (grownCap w s.size 0 5) s.data.reverse.toList Tryd.underlying58 Tryd.underlying5 Tryd.underlying9 (by
    intro j hj
    have hj' : j < s.data.reverse.size := by simpa using hj
    have := (hH j hj').1
    rw [getElem!_pos _ j hj'] at this
    have e : (⟨w.heap.size, 0, none⟩ : Addr).add j = ⟨w.heap.size, 0 + j, none⟩ := by
      unfold Addr.add; split <;> simp_all
    rw [e]; simpa [encB] using this)
  have e1 : s.data.reverse.toList.length = s.size := by rw [Array.length_toList, Array.size_reverse]; rfl
  rw [e1] at hback
  have e2 : s.data.reverse.toList.toArray = s.data.reverse := Array.toArray_toList
  rw [e2] at hback
  have HB : Hid (Below w.heap.size w w') := by
    have h0 : Below w.heap.size w (w.drew.alloc (.cells (bytesRow s (grownCap w s.size 0 5)) 5 ((bytesRow s (grownCap w s.size 0 5)).size, (bytesRow s (grownCap w s.size 0 5)).size + 1))) := ((Below.refl _ _).drew).alloc (Nat.le_refl _) _
    exact h0.trans hb
  clear hb hH hconv hh e1 e2
  go_wp2_with fail
  go_ret
  exact ⟨rfl, HB.out⟩

theorem impl_reverse (s : ByteArray) (w : World) (hs : s.size ≤ maxLen) :
    Calls Tryd.prog 13 #[.string s] w fun e w' => e = .returned (.string ⟨s.data.reverse⟩) ∧ Below w.heap.size w w' := by
  go_enter Tryd.func13, Tryd.ntmps13
  go_wp2_with fail
  refine (trie_reverse s _ hs).mono ?_
  rintro e w' ⟨rfl, hb⟩
  have HB := Lib.hid hb
  clear hb
  go_wp2_with fail
  go_ret
  exact ⟨rfl, HB.out⟩

theorem run_make_rowB {P : Program} (t e : TypeId) (i : TypeInfo) (z : Value) (ht : P.underlying t = some (.slice e)) (hi : P.info? e = some i) (hz : i.zero = some z)
    (kl kc : IntKind) (n c : Nat) (hnc : n ≤ c) (hbytes : i.bytes * c ≤ 281474976710656) (h63 : c ≤ 9223372036854775807) (w : World) :
    (Instr.makeSlice t (.int kl (n : Int)) (.int kc (c : Int))).run P w = .ok (.slice (some ⟨w.heap.size, 0, none⟩) n c) (w.alloc (.cells (madeCells z.cells (c * i.size)) e)) := by
  have hb : (i.bytes : Int) * (c : Int) ≤ 281474976710656 := by
    have h : ((i.bytes * c : Nat) : Int) ≤ 281474976710656 := by omega
    rwa [Int.natCast_mul] at h
  have hr := run_make (P := P) w t e i z ht hi hz kl kc n c (by omega) (by omega) hb (by omega)
  simp only [Int.toNat_natCast] at hr
  exact hr

theorem infoB5 : (Tryd.prog.info? 5).map (fun i => (i.zero, i.size, i.bytes)) = some (some (.int .u8 0), 1, 1) := by kernel_rfl

theorem madeCells_one (z : Value) (hz : z.cells = #[z]) (n : Nat) : madeCells z.cells n = Array.replicate n z := by
  rw [hz]
  apply Array.ext
  · simp [madeCells]
  · intro i h1 h2
    simp [madeCells, Nat.mod_one]

theorem holds_zeros (w : World) (n : Nat) (e : TypeId) :
    Holds encB (w.alloc (.cells (Array.replicate n (.int .u8 0)) e)) w.heap.size 0 (Array.replicate n 0) := by
  intro j hj
  rw [Nat.zero_add]
  have hj' : j < n := by simpa using hj
  refine ⟨?_, ?_⟩
  · rw [World.cell?_alloc_new, getElem!_pos _ j hj]
    simp [hj', encB]
  · exact World.frozen?_alloc_new w _ e j

set_option maxHeartbeats 400000 in
theorem spec_turned (s : ByteArray) (w : World) (hs : s.size ≤ 140737488355328) :
    Calls Tryd.prog 10 #[.string s] w fun e w' => e = .returned (.string ⟨s.data.reverse⟩) ∧ Below w.heap.size w w' := by
  obtain ⟨i0, hi, hz0, hz1, hz2⟩ := info_parts infoB5
  have hmk := run_make_rowB (P := Tryd.prog) 58 5 i0 _ Tryd.underlying58 hi hz0 .i64 .i64 s.size s.size (Nat.le_refl _) (by rw [hz2]; omega) (by omega) w
  rw [hz1, Nat.mul_one, madeCells_one _ rfl] at hmk
  have hh := holds_zeros w s.size 5
  generalize hW : w.alloc (.cells (Array.replicate s.size (.int .u8 0)) 5) = W at hmk hh
  have HB : Hid (Below w.heap.size w W) := by
    rw [← hW]; exact (Below.refl _ _).alloc (Nat.le_refl _) _
  clear hW
  have HH := Lib.hid hh
  clear hh hi hz0 hz1 hz2
  go_enter Tryd.func10, Tryd.ntmps10
  go_wp2_with fail
  go_loopw [4, 10] (fun x i wr => ∃ (k : Nat) (dk : Array UInt8), k ≤ s.size ∧ i = .int .i64 k ∧ dk.size = s.size ∧ wr = putRow encB W w.heap.size 0 dk ∧ ∀ j, j < k → dk[s.size - 1 - j]! = s.data[j]!) (fun _ i _ => s.size - (RowKit.intOf i).toNat)
  case atStart => exact ⟨0, Array.replicate s.size 0, Nat.zero_le _, rfl, by simp, (putRow_self encB W _ 0 _ HH.out).symm, fun j hj => by omega⟩
  case round =>
    obtain ⟨k, dk, hk, rfl, hds, hwr, hdk⟩ := hrel
    by_cases hlt : k < s.size
    · have hHk : Holds encB wr w.heap.size 0 dk := by rw [hwr]; exact holds_putRow encB _ _ 0 _ dk HH.out (by simpa using hds)
      obtain ⟨ci, fi⟩ := hHk (s.size - 1 - k) (by omega)
      simp only [encB, Nat.zero_add] at ci fi
      have A := Lib.hid hwr
      have D := Lib.hid hdk
      have S := Lib.hid hds
      clear hwr hHk hdk hds
      go_wp2
      go_roundw
      case rel =>
        refine ⟨k + 1, dk.setIfInBounds (s.size - 1 - k) s[k], by omega, by go_num, by simpa using S.out, ?_, ?_⟩
        · rw [A.out]
          have := putRow_set encB W w.heap.size 0 dk (s.size - 1 - k) s[k] (by rw [S.out]; omega)
          rw [← this, Nat.zero_add]; rfl
        · intro j hj
          have hS := S.out
          by_cases hjk : j = k
          · subst hjk
            rw [getElem!_set_same _ _ _ (by omega), getElem!_pos s.data j hlt]; rfl
          · rw [getElem!_set_other _ _ _ _ (by omega)]
            exact D.out j (by omega)
      case measure => simp [RowKit.intOf]; omega
    · have hks : k = s.size := by omega
      have hfin : dk = s.data.reverse := by
        apply Array.ext
        · rw [hds, Array.size_reverse]; rfl
        · intro j h1 h2
          have := hdk (s.size - 1 - j) (by omega)
          rw [show s.size - 1 - (s.size - 1 - j) = j by omega, getElem!_pos dk j h1, getElem!_pos s.data _ (by show _ < s.size; omega)] at this
          rw [this, Array.getElem_reverse]; rfl
      have hHk : Holds encB wr w.heap.size 0 dk := by rw [hwr]; exact holds_putRow encB _ _ 0 _ dk HH.out (by simpa using hds)
      have hback := run_convert_bytes_back (P := Tryd.prog) wr 58 9 5 ⟨w.heap.size, 0, none⟩ s.size dk.toList Tryd.underlying58 Tryd.underlying5 Tryd.underlying9 (by
        intro j hj
        have hj' : j < dk.size := by simpa using hj
        have := (hHk j hj').1
        rw [getElem!_pos _ j hj'] at this
        have e : (⟨w.heap.size, 0, none⟩ : Addr).add j = ⟨w.heap.size, 0 + j, none⟩ := by
          unfold Addr.add; split <;> simp_all
        rw [e]; simpa [encB] using this)
      rw [Array.length_toList, hds, Array.toArray_toList, hfin] at hback
      have HB2 : Hid (Below w.heap.size w wr) := by
        rw [hwr]
        exact HB.out.trans (below_putRow encB _ _ 0 _ _ (Nat.le_refl _))
      clear hfin hHk hwr hdk hds hks
      go_wp2
      go_ret
      exact ⟨rfl, HB2.out⟩

theorem impl_reverse_ab (w : World) :
    Calls Tryd.prog 13 #[.string ⟨#[97, 98]⟩] w fun e w' => e = .returned (.string ⟨#[98, 97]⟩) ∧ Below w.heap.size w w' := by
  refine (impl_reverse ⟨#[97, 98]⟩ w (by decide)).mono ?_
  rintro e w' ⟨rfl, hb⟩
  exact ⟨by simp, hb⟩

/-- spec.Turned and impl.Reverse, over lists. -/
theorem turned_any (l : Bs) (w : World) (hl : l.length ≤ 1099511627776) : Calls Tryd.prog 10 #[.string (S l)] w fun e w' => e = .returned (.string (S l.reverse)) ∧ Below w.heap.size w w' := by
  refine (spec_turned (S l) w (by rw [S_size]; omega)).mono fun e w' ⟨h1, h2⟩ => ⟨?_, h2⟩
  rw [h1]
  simp [S]
theorem ireverse_any (l : Bs) (w : World) (hl : l.length ≤ 1099511627776) : Calls Tryd.prog 13 #[.string (S l)] w fun e w' => e = .returned (.string (S l.reverse)) ∧ Below w.heap.size w w' := by
  refine (impl_reverse (S l) w (by rw [S_size]; unfold maxLen; omega)).mono fun e w' ⟨h1, h2⟩ => ⟨?_, h2⟩
  rw [h1]
  simp [S]
end Go.Proofs.YtjekaagjgamfkaaDoor
