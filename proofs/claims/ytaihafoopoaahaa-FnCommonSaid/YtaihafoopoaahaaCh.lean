/- The walk of bytes.Compare; its sign. No condition. -/
import Derived.Test.YtaihafoopoaahaaCv
import Derived.Laws.Externs
import Derived.Lib.Bytealg
namespace Go.Proofs.Ytaihafoopoaahaa
open Go.RowKit

theorem run_loadB {P : Program} {w : World} : ∀ (D : Bs) (a : Addr) (acc : ByteArray), (∀ j u, (bts D)[j]? = some u → w.cell? (a.add j) = some u) →
    (Extern.Bytes.loadBytes a D.length acc).run P w = .ok ⟨acc.data ++ D.toArray⟩ w
  | [], a, acc, _ => by simp [Extern.Bytes.loadBytes]
  | x :: D, a, acc, h => by
    have h0 : w.cell? a = some (.int .u8 (x.toNat : Int)) := by
      have := h 0 (.int .u8 (x.toNat : Int)) (by simp)
      simpa [Addr.add] using this
    have ih := run_loadB (P := P) D (a.add 1) (acc.push x) (fun j u hu => by
      rw [add_of_add, Nat.add_comm]
      exact h (j + 1) u (by simpa using hu))
    have hx : ((x.toNat : Int).toNat).toUInt8 = x := by simp
    simp only [List.length_cons, Extern.Bytes.loadBytes, Sem.run_bind, run_load, h0, Result.andThen, hx]
    rw [ih]
    congr 2
    simp [ByteArray.push]
theorem load_reads {P : Program} {w : World} {K : Nat → Prop} {ad : Addr} {c : Nat} {D : Bs} (h : Reads w K 1 (some ad) D.length (bts D)) : (Extern.Bytes.bytesOf (.slice (some ad) D.length c)).run P w = .ok (S D) w := by
  have h1 := run_loadB (P := P) (w := w) D ad .empty (fun j u hu => by
    have hl := (List.getElem?_eq_some_iff.1 hu).1
    obtain ⟨ad', e, _, _, hc⟩ := h.2 (by simp at hl; omega)
    injection e with e
    subst e
    exact hc j u hu)
  show (Extern.Bytes.loadBytes ad D.length .empty).run P w = _
  rw [h1]
  simp [S]
theorem run_cmp {P : Program} {w : World} {K K' : Nat → Prop} {a b : Addr} {c c' : Nat} {D E : Bs} (h : Reads w K 1 (some a) D.length (bts D)) (h' : Reads w K' 1 (some b) E.length (bts E)) :
    (Extern.BytealgCompare.compare #[.slice (some a) D.length c, .slice (some b) E.length c']).run P w = .ok (.int .i64 (Lib.compareBytes D E)) w := by
  change Sem.run P (do pure (goInt (Extern.BytealgCompare.cmp (← Extern.Bytes.bytesOf (.slice (some a) D.length c)) (← Extern.Bytes.bytesOf (.slice (some b) E.length c'))))) w = _
  simp only [Sem.run_bind, Sem.run_pure, load_reads h, load_reads h', Result.andThen]
  rw [Lib.cmp_eq]
  simp [S, goInt]

theorem cmp_pos : ∀ (a b : Bs), 0 < Lib.compareBytes a b ↔ b < a
  | [], [] => by simp [Lib.compareBytes]
  | [], _ :: _ => by simp [Lib.compareBytes]
  | _ :: _, [] => by simp [Lib.compareBytes]
  | x :: a, y :: b => by
    have ih := cmp_pos a b
    unfold Lib.compareBytes
    rw [List.cons_lt_cons_iff]
    by_cases h1 : x < y
    · have h2 : ¬ y < x := by rw [UInt8.lt_iff_toNat_lt] at h1 ⊢; omega
      have h3 : ¬ y = x := fun e => by subst e; exact h2 h1
      simp [h1, h2, h3]
    · by_cases h2 : y < x
      · simp [h1, h2]
      · have h3 : y = x := by
          apply UInt8.toNat_inj.1
          rw [UInt8.lt_iff_toNat_lt] at h1 h2
          omega
        subst h3
        simp [h1, ih]

set_option maxHeartbeats 1000000 in
set_option maxRecDepth 100000 in
theorem compare_any (K K' : Nat → Prop) (a b : Addr) (c c' : Nat) (D E : Bs) (w : World) (h : Reads w K 1 (some a) D.length (bts D)) (h' : Reads w K' 1 (some b) E.length (bts E)) :
    Calls Try.prog 22 #[.slice (some a) D.length c, .slice (some b) E.length c'] w fun e w' => e = .returned (.int .i64 (Lib.compareBytes D E)) ∧ w' = w := by
  have hr := run_cmp (P := Try.prog) (c := c) (c' := c') h h'
  clear h h'
  go_enter Try.func22, Try.ntmps22
  go_wp2
  rw [run_callFunc_extern Try.func30 (by kernel_rfl) (by kernel_rfl) (by kernel_rfl) (e := Extern.BytealgCompare.compare) (by kernel_rfl), hr]
  simp only [Result.andThen]
  rw [Oper.upon_value]
  go_wp2
  go_ret
  exact ⟨rfl, rfl⟩
end Go.Proofs.Ytaihafoopoaahaa
