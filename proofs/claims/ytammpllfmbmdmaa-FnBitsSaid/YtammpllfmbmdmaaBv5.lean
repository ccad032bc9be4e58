/- BitVector's methods, said of rows of bits. -/
import Derived.Test.YtammpllfmbmdmaaBv3
import Derived.Test.YtammpllfmbmdmaaBv4
namespace Go.Proofs.Ytammpllfmbmdmaa
open Go.RowKit

theorem BVTo.mono {B g n' : Nat} {v : Value} {Q Q' : List Nat → Prop} {w w' : World} (h : BVTo B g v n' Q w w') (hQ : ∀ D, Q D → Q' D) : BVTo B g v n' Q' w w' := by
  obtain ⟨⟨v', D', h1, h2, h3⟩, hc⟩ := h
  exact ⟨⟨v', D', h1, h2, hQ _ h3⟩, hc⟩

section
variable (B g : Nat) (v : Value) (D : List Nat) (l : List Int) (w : World)

theorem bvx_append (x : Int) (hx : x = 0 ∨ x = 1) (h : BV w B g v l.length D) (hv : VecIs D l) (hn : l.length ≤ 10000) (hB : B ≤ w.heap.size) :
    Calls Try.prog 52 #[.pointer (some ⟨g, 0, none⟩), .int .u8 x] w fun e w' => e = .returned (.tuple #[]) ∧ BVTo B g v (l.length + 1) (fun D' => VecIs D' (l ++ [x])) w w' := by
  have hs := hv.size
  have hp := @VecIs.push D l
  by_cases hg : D.length < (l.length + 1 + 7) / 8
  · have hr : roomy D l.length = D ++ [0] := by unfold roomy; rw [if_pos hg]
    rw [hr] at hp
    rcases hx with rfl | rfl
    · refine (bv_append_g0 B g v l.length D w (l.length / 8) (l.length % 8) (by omega) (by omega) h (by omega) hB (by simp; omega) hg (by omega)).mono fun e w' ⟨he, hb⟩ => ⟨he, hb.mono ?_⟩
      rintro D' ⟨b', h1, rfl⟩
      exact hp hv h1
    · refine (bv_append_g1 B g v l.length D w (l.length / 8) (l.length % 8) (by omega) (by omega) h (by omega) hB (by simp; omega) hg (by omega)).mono fun e w' ⟨he, hb⟩ => ⟨he, hb.mono ?_⟩
      rintro D' ⟨b', h1, rfl⟩
      exact hp hv h1
  · have hr : roomy D l.length = D := by unfold roomy; rw [if_neg hg]
    rw [hr] at hp
    rcases hx with rfl | rfl
    · refine (bv_append_r0 B g v l.length D w (l.length / 8) (l.length % 8) (by omega) (by omega) h (by omega) hB (by omega) hg (by omega)).mono fun e w' ⟨he, hb⟩ => ⟨he, hb.mono ?_⟩
      rintro D' ⟨b', h1, rfl⟩
      exact hp hv h1
    · refine (bv_append_r1 B g v l.length D w (l.length / 8) (l.length % 8) (by omega) (by omega) h (by omega) hB (by omega) hg (by omega)).mono fun e w' ⟨he, hb⟩ => ⟨he, hb.mono ?_⟩
      rintro D' ⟨b', h1, rfl⟩
      exact hp hv h1

theorem bvx_set (x : Int) (hx : x = 0 ∨ x = 1) (i : Nat) (h : BV w B g v l.length D) (hv : VecIs D l) (hi : i < l.length) (hn : l.length ≤ 10000) :
    Calls Try.prog 53 #[.pointer (some ⟨g, 0, none⟩), .int .u8 x, .int .i64 i] w fun e w' => e = .returned (.tuple #[]) ∧ BVTo B g v l.length (fun D' => VecIs D' (l.set i x)) w w' := by
  have hs := hv.size
  refine (bv_set B g v l.length D w x hx i h hi (by omega) (by omega)).mono fun e w' ⟨he, b', hb, hbv, hc⟩ => ⟨he, ⟨v, _, hbv, fun j hj => Or.inl hj, hv.set hi hb⟩, hc.mono (fun _ _ e => Or.inr e)⟩

theorem bvx_element (i : Nat) (h : BV w B g v l.length D) (hv : VecIs D l) (hi : i < l.length) (hn : l.length ≤ 10000) :
    Calls Try.prog 56 #[.pointer (some ⟨g, 0, none⟩), .int .i64 i] w fun e w' => e = .returned (.int .u8 (l.getD i 0)) ∧ w' = w := by
  have hs := hv.size
  rw [hv.at_ hi]
  exact bv_element B g v l.length D w i h hi (by omega) (by omega)

theorem bvx_insert (x : Int) (hx : x = 0 ∨ x = 1) (i : Nat) (h : BV w B g v l.length D) (hv : VecIs D l) (hi : i < l.length) (hn : l.length ≤ 10000) (hB : B ≤ w.heap.size) :
    Calls Try.prog 54 #[.pointer (some ⟨g, 0, none⟩), .int .u8 x, .int .i64 i] w fun e w' => e = .returned (.tuple #[]) ∧ BVTo B g v (l.length + 1) (fun D' => VecIs D' (l.take i ++ x :: l.drop i)) w w' := by
  have hs := hv.size
  have hp := @VecIs.insert D l i
  obtain ⟨A, cap, hvv, _⟩ := own_reads h.row
  have hlt := h.lt
  by_cases hg : D.length < (l.length + 1 + 7) / 8
  · have hr : roomy D l.length = D ++ [0] := by unfold roomy; rw [if_pos hg]
    rw [hr] at hp
    have hlt2 : ∀ b ∈ D ++ [0], b < 256 := fun b hb => by
      rcases List.mem_append.1 hb with hb | hb
      · exact hlt b hb
      · rw [List.mem_singleton.1 hb]; omega
    rcases hx with rfl | rfl
    · refine (bv_insert_g0 B g v l.length D w i (i / 8) (i % 8) (by omega) (by omega) hi h (by omega) hB (by simp; omega) hg (by omega)).mono fun e w' ⟨he, hb⟩ => ⟨he, hb.mono ?_⟩
      rintro D' ⟨b', h1, rfl⟩
      exact hp hv hi hlt2 h1
    · refine (bv_insert_g1 B g v l.length D w i (i / 8) (i % 8) (by omega) (by omega) hi h (by omega) hB (by simp; omega) hg (by omega)).mono fun e w' ⟨he, hb⟩ => ⟨he, hb.mono ?_⟩
      rintro D' ⟨b', h1, rfl⟩
      exact hp hv hi hlt2 h1
  · have hr : roomy D l.length = D := by unfold roomy; rw [if_neg hg]
    rw [hr] at hp
    by_cases he : i / 8 + 1 = D.length
    · by_cases hc : cap = i / 8 + 1
      · have hcn : ∀ A c, v = .slice A D.length c → c = i / 8 + 1 := fun A' c' e => by rw [hvv] at e; injection e with _ _ e; omega
        rcases hx with rfl | rfl
        · refine (bv_insert_e0y B g v l.length D w i (i / 8) (i % 8) (by omega) (by omega) hi h (by omega) hB he hg (by omega) hcn).mono fun e w' ⟨he, hb⟩ => ⟨he, hb.mono ?_⟩
          rintro D' ⟨b', h1, rfl⟩
          exact hp hv hi hlt h1
        · refine (bv_insert_e1y B g v l.length D w i (i / 8) (i % 8) (by omega) (by omega) hi h (by omega) hB he hg (by omega) hcn).mono fun e w' ⟨he, hb⟩ => ⟨he, hb.mono ?_⟩
          rintro D' ⟨b', h1, rfl⟩
          exact hp hv hi hlt h1
      · have hcn : ∀ A c, v = .slice A D.length c → c ≠ i / 8 + 1 := fun A' c' e => by rw [hvv] at e; injection e with _ _ e; omega
        rcases hx with rfl | rfl
        · refine (bv_insert_e0n B g v l.length D w i (i / 8) (i % 8) (by omega) (by omega) hi h (by omega) hB he hg (by omega) hcn).mono fun e w' ⟨he, hb⟩ => ⟨he, hb.mono ?_⟩
          rintro D' ⟨b', h1, rfl⟩
          exact hp hv hi hlt h1
        · refine (bv_insert_e1n B g v l.length D w i (i / 8) (i % 8) (by omega) (by omega) hi h (by omega) hB he hg (by omega) hcn).mono fun e w' ⟨he, hb⟩ => ⟨he, hb.mono ?_⟩
          rintro D' ⟨b', h1, rfl⟩
          exact hp hv hi hlt h1
    · rcases hx with rfl | rfl
      · refine (bv_insert_r0 B g v l.length D w i (i / 8) (i % 8) (by omega) (by omega) hi h (by omega) hB (by omega) hg (by omega)).mono fun e w' ⟨he, hb⟩ => ⟨he, hb.mono ?_⟩
        rintro D' ⟨b', h1, rfl⟩
        exact hp hv hi hlt h1
      · refine (bv_insert_r1 B g v l.length D w i (i / 8) (i % 8) (by omega) (by omega) hi h (by omega) hB (by omega) hg (by omega)).mono fun e w' ⟨he, hb⟩ => ⟨he, hb.mono ?_⟩
        rintro D' ⟨b', h1, rfl⟩
        exact hp hv hi hlt h1

theorem bvx_delete (i : Nat) (h : BV w B g v l.length D) (hv : VecIs D l) (hi : i < l.length) (hn : l.length ≤ 10000) :
    Calls Try.prog 55 #[.pointer (some ⟨g, 0, none⟩), .int .i64 i] w fun e w' => e = .returned (.tuple #[]) ∧ BVTo B g v (l.length - 1) (fun D' => VecIs D' (l.eraseIdx i)) w w' := by
  have hs := hv.size
  have hp := @VecIs.erase D l i
  have hlt := h.lt
  obtain ⟨A, cap, hvv, _⟩ := own_reads h.row
  obtain ⟨n1, hn1⟩ : ∃ n1, l.length = n1 + 1 := ⟨l.length - 1, by omega⟩
  rw [show l.length - 1 = n1 by omega] at hp ⊢
  by_cases hg : (n1 + 7) / 8 < D.length
  · by_cases he : i / 8 + 1 = D.length
    · by_cases hc : cap = i / 8 + 1
      · refine (bv_delete_eyt B g v l.length D w n1 i (i / 8) (i % 8) hn1 (by omega) (by omega) hi h (by omega) he hg (by omega) (fun A' c' e => by rw [hvv] at e; injection e with _ _ e; omega)).mono fun e w' ⟨he, hb⟩ => ⟨he, hb.mono ?_⟩
        rintro D' ⟨b', h1, rfl⟩
        exact hp hv hi hlt h1
      · refine (bv_delete_ent B g v l.length D w n1 i (i / 8) (i % 8) hn1 (by omega) (by omega) hi h (by omega) he hg (by omega) (fun A' c' e => by rw [hvv] at e; injection e with _ _ e; omega)).mono fun e w' ⟨he, hb⟩ => ⟨he, hb.mono ?_⟩
        rintro D' ⟨b', h1, rfl⟩
        exact hp hv hi hlt h1
    · refine (bv_delete_rnt B g v l.length D w n1 i (i / 8) (i % 8) hn1 (by omega) (by omega) hi h (by omega) (by omega) hg (by omega)).mono fun e w' ⟨he, hb⟩ => ⟨he, hb.mono ?_⟩
      rintro D' ⟨b', h1, rfl⟩
      exact hp hv hi hlt h1
  · by_cases he : i / 8 + 1 = D.length
    · by_cases hc : cap = i / 8 + 1
      · refine (bv_delete_eys B g v l.length D w n1 i (i / 8) (i % 8) hn1 (by omega) (by omega) hi h (by omega) he hg (by omega) (fun A' c' e => by rw [hvv] at e; injection e with _ _ e; omega)).mono fun e w' ⟨he, hb⟩ => ⟨he, hb.mono ?_⟩
        rintro D' ⟨b', h1, rfl⟩
        exact hp hv hi hlt h1
      · refine (bv_delete_ens B g v l.length D w n1 i (i / 8) (i % 8) hn1 (by omega) (by omega) hi h (by omega) he hg (by omega) (fun A' c' e => by rw [hvv] at e; injection e with _ _ e; omega)).mono fun e w' ⟨he, hb⟩ => ⟨he, hb.mono ?_⟩
        rintro D' ⟨b', h1, rfl⟩
        exact hp hv hi hlt h1
    · refine (bv_delete_rns B g v l.length D w n1 i (i / 8) (i % 8) hn1 (by omega) (by omega) hi h (by omega) (by omega) hg (by omega)).mono fun e w' ⟨he, hb⟩ => ⟨he, hb.mono ?_⟩
      rintro D' ⟨b', h1, rfl⟩
      exact hp hv hi hlt h1
end
end Go.Proofs.Ytammpllfmbmdmaa
