/- Plain law: bytes as rows of bits, and what setting, inserting and deleting a bit does to them. -/
import Derived.Laws.BitsAllLaws
import Derived.Laws.BitsLemmas
namespace Go.Proofs.Ytammpllfmbmdmaa

/-- The bits of a byte, the lowest one first. -/
def bitsB (b : Nat) : List Int := [((b % 2 : Nat) : Int), ((b / 2 % 2 : Nat) : Int), ((b / 4 % 2 : Nat) : Int), ((b / 8 % 2 : Nat) : Int), ((b / 16 % 2 : Nat) : Int), ((b / 32 % 2 : Nat) : Int), ((b / 64 % 2 : Nat) : Int), ((b / 128 % 2 : Nat) : Int)]
def vbits (D : List Nat) : List Int := D.flatMap bitsB

theorem bitsB_len (b : Nat) : (bitsB b).length = 8 := rfl
theorem vbits_len : ∀ D : List Nat, (vbits D).length = 8 * D.length
  | [] => rfl
  | b :: D => by
    have := vbits_len D
    unfold vbits at this ⊢
    rw [List.flatMap_cons, List.length_append, this, bitsB_len, List.length_cons]; omega
theorem vbits_append (D E : List Nat) : vbits (D ++ E) = vbits D ++ vbits E := List.flatMap_append
theorem vbits_cons (b : Nat) (D : List Nat) : vbits (b :: D) = bitsB b ++ vbits D := rfl

theorem split_at {D : List Nat} {k : Nat} (hk : k < D.length) : D = D.take k ++ D.getD k 0 :: D.drop (k + 1) := by
  have : D.getD k 0 = D[k] := by simp [hk]
  rw [this, List.getElem_cons_drop, List.take_append_drop]
theorem set_at {D : List Nat} {k b : Nat} (hk : k < D.length) : D.set k b = D.take k ++ b :: D.drop (k + 1) := by
  rw [List.set_eq_take_append_cons_drop, if_pos hk]

theorem set_mid {A B C : List Int} {o : Nat} {x : Int} (ho : o < B.length) : (A ++ (B ++ C)).set (A.length + o) x = A ++ (B.set o x ++ C) := by
  rw [List.set_append_right _ _ (by omega), Nat.add_sub_cancel_left, List.set_append_left _ _ ho]

theorem ins_mid {A B C : List Int} {o : Nat} {x : Int} (ho : o ≤ B.length) : A ++ ((B.take o ++ x :: B.drop o) ++ C) = (A ++ (B ++ C)).take (A.length + o) ++ x :: (A ++ (B ++ C)).drop (A.length + o) := by
  have h1 : (A ++ (B ++ C)).take (A.length + o) = A ++ B.take o := by
    rw [List.take_append, List.take_of_length_le (by omega), Nat.add_sub_cancel_left, List.take_append_of_le_length ho]
  have h2 : (A ++ (B ++ C)).drop (A.length + o) = B.drop o ++ C := by
    rw [List.drop_append, List.drop_eq_nil_of_le (by omega), Nat.add_sub_cancel_left, List.drop_append_of_le_length ho, List.nil_append]
  rw [h1, h2]; simp

/-- A byte with one bit set anew. -/
theorem vbits_set {D : List Nat} {k o b' : Nat} {x : Int} (hk : k < D.length) (ho : o < 8) (hb : bitsB b' = (bitsB (D.getD k 0)).set o x) : vbits (D.set k b') = (vbits D).set (8 * k + o) x := by
  have e1 : vbits D = vbits (D.take k) ++ (bitsB (D.getD k 0) ++ vbits (D.drop (k + 1))) := by
    conv => lhs; rw [split_at hk]
    rw [vbits_append, vbits_cons]
  rw [e1, set_at hk, vbits_append, vbits_cons, hb]
  have hl : (vbits (D.take k)).length = 8 * k := by rw [vbits_len, List.length_take]; omega
  rw [← hl, set_mid ho]

/-- The bytes D hold the bits l. -/
structure VecIs (D : List Nat) (l : List Int) : Prop where
  size : D.length = (l.length + 7) / 8
  bits : (vbits D).take l.length = l

theorem VecIs.nil : VecIs [] [] := ⟨rfl, rfl⟩
theorem VecIs.room {D : List Nat} {l : List Int} (h : VecIs D l) : l.length ≤ 8 * D.length := by have := h.size; omega
theorem VecIs.at_ {D : List Nat} {l : List Int} (h : VecIs D l) {i : Nat} (hi : i < l.length) : l.getD i 0 = (bitsB (D.getD (i / 8) 0)).getD (i % 8) 0 := by
  have hk : i / 8 < D.length := by have := h.size; omega
  have e1 : vbits D = vbits (D.take (i / 8)) ++ (bitsB (D.getD (i / 8) 0) ++ vbits (D.drop (i / 8 + 1))) := by
    conv => lhs; rw [split_at hk]
    rw [vbits_append, vbits_cons]
  have hl : (vbits (D.take (i / 8))).length = 8 * (i / 8) := by rw [vbits_len, List.length_take]; omega
  have h1 : l.getD i 0 = (vbits D).getD i 0 := by
    conv => lhs; rw [← h.bits]
    rw [List.getD_eq_getElem?_getD, List.getD_eq_getElem?_getD, List.getElem?_take, if_pos hi]
  rw [h1, e1, List.getD_eq_getElem?_getD, List.getD_eq_getElem?_getD, List.getElem?_append_right (by omega), hl, List.getElem?_append_left (by rw [bitsB_len]; omega), show i - 8 * (i / 8) = i % 8 by omega]
  simp [List.getD_eq_getElem?_getD]

theorem VecIs.set {D : List Nat} {l : List Int} {i b' : Nat} {x : Int} (h : VecIs D l) (hi : i < l.length) (hb : bitsB b' = (bitsB (D.getD (i / 8) 0)).set (i % 8) x) : VecIs (D.set (i / 8) b') (l.set i x) := by
  have hk : i / 8 < D.length := by have := h.size; omega
  refine ⟨by simpa using h.size, ?_⟩
  rw [vbits_set hk (by omega) hb, show 8 * (i / 8) + i % 8 = i by omega, List.length_set, List.take_set, h.bits]

/-- The bytes with room for one more bit. -/
def roomy (D : List Nat) (n : Nat) : List Nat := if D.length < (n + 1 + 7) / 8 then D ++ [0] else D
theorem roomy_len {D : List Nat} {l : List Int} (h : VecIs D l) : (roomy D l.length).length = (l.length + 1 + 7) / 8 := by
  have := h.size
  unfold roomy
  split
  · simp; omega
  · omega
theorem roomy_bits {D : List Nat} {l : List Int} (h : VecIs D l) : (vbits (roomy D l.length)).take l.length = l := by
  unfold roomy
  split
  · rw [vbits_append, List.take_append_of_le_length (by rw [vbits_len]; exact h.room)]; exact h.bits
  · exact h.bits

theorem VecIs.push {D : List Nat} {l : List Int} {b' : Nat} {x : Int} (h : VecIs D l) (hb : bitsB b' = (bitsB ((roomy D l.length).getD (l.length / 8) 0)).set (l.length % 8) x) : VecIs ((roomy D l.length).set (l.length / 8) b') (l ++ [x]) := by
  have hr := roomy_len h
  have hk : l.length / 8 < (roomy D l.length).length := by omega
  refine ⟨by simp [hr], ?_⟩
  rw [vbits_set hk (by omega) hb, show 8 * (l.length / 8) + l.length % 8 = l.length by omega, List.length_append, List.length_singleton]
  have hlt : l.length < (vbits (roomy D l.length)).length := by rw [vbits_len]; omega
  rw [List.take_set, List.take_succ_eq_append_getElem hlt, roomy_bits h, List.set_append_right _ _ (Nat.le_refl _), Nat.sub_self]
  rfl

/-! ### one bit more, one bit less -/

/-- All bytes shifted up by one bit. -/
def shH : Nat → List Nat → List Nat
  | _, [] => []
  | c, b :: D => (b * 2 % 256 + c) :: shH (b / 128) D
theorem shH_len : ∀ (D : List Nat) (c : Nat), (shH c D).length = D.length
  | [], _ => rfl
  | b :: D, c => by simp [shH, shH_len D]
theorem byte_up : ∀ b : Fin 256, ∀ c : Fin 2, (b.val * 2 % 256 + c.val < 256) ∧ bitsB (b.val * 2 % 256 + c.val) ++ [((b.val / 128 : Nat) : Int)] = (c.val : Int) :: bitsB b.val := by decide +kernel
theorem shH_bits : ∀ (D : List Nat) (c : Nat), (∀ b ∈ D, b < 256) → c < 2 → ∃ y, vbits (shH c D) ++ [y] = (c : Int) :: vbits D
  | [], c, _, _ => ⟨c, rfl⟩
  | b :: D, c, h, hc => by
    have hb := h b (List.mem_cons_self ..)
    have h1 := (byte_up ⟨b, hb⟩ ⟨c, hc⟩).2
    obtain ⟨y, hy⟩ := shH_bits D (b / 128) (fun x hx => h x (List.mem_cons_of_mem _ hx)) (by omega)
    refine ⟨y, ?_⟩
    show vbits ((b * 2 % 256 + c) :: shH (b / 128) D) ++ [y] = _
    rw [vbits_cons, List.append_assoc, hy, vbits_cons]
    have h2 : bitsB (b * 2 % 256 + c) ++ [((b / 128 : Nat) : Int)] = (c : Int) :: bitsB b := h1
    rw [← List.singleton_append, ← List.append_assoc, h2]; rfl
theorem shH_lt : ∀ (D : List Nat) (c : Nat), (∀ b ∈ D, b < 256) → c < 2 → ∀ b ∈ shH c D, b < 256
  | [], _, _, _, _, h => by cases h
  | b :: D, c, h, hc, x, hx => by
    have hb := h b (List.mem_cons_self ..)
    rcases List.mem_cons.1 hx with rfl | hx
    · exact (byte_up ⟨b, hb⟩ ⟨c, hc⟩).1
    · exact shH_lt D _ (fun x hx => h x (List.mem_cons_of_mem _ hx)) (by omega) x hx

/-- All bytes shifted down by one bit, and the bit that came out. -/
def shL : Nat → List Nat → List Nat × Nat
  | c, [] => ([], c)
  | c, b :: D => ((b / 2 + 128 * (shL c D).2) :: (shL c D).1, b % 2)
theorem shL_len : ∀ (D : List Nat) (c : Nat), (shL c D).1.length = D.length
  | [], _ => rfl
  | b :: D, c => by simp [shL, shL_len D]
theorem shL_c : ∀ (D : List Nat) (c : Nat), c < 2 → (shL c D).2 < 2
  | [], _, h => h
  | b :: D, c, _ => by show b % 2 < 2; omega
theorem byte_down : ∀ b : Fin 256, ∀ c : Fin 2, (b.val / 2 + 128 * c.val < 256) ∧ ((b.val % 2 : Nat) : Int) :: bitsB (b.val / 2 + 128 * c.val) = bitsB b.val ++ [(c.val : Int)] := by decide +kernel
theorem shL_bits : ∀ (D : List Nat) (c : Nat), (∀ b ∈ D, b < 256) → c < 2 → ((shL c D).2 : Int) :: vbits (shL c D).1 = vbits D ++ [(c : Int)]
  | [], c, _, _ => rfl
  | b :: D, c, h, hc => by
    have hb := h b (List.mem_cons_self ..)
    have ih := shL_bits D c (fun x hx => h x (List.mem_cons_of_mem _ hx)) hc
    have h1 := (byte_down ⟨b, hb⟩ ⟨(shL c D).2, shL_c D c hc⟩).2
    show ((b % 2 : Nat) : Int) :: vbits ((b / 2 + 128 * (shL c D).2) :: (shL c D).1) = _
    rw [vbits_cons, vbits_cons, List.append_assoc, ← ih]
    have h2 : ((b % 2 : Nat) : Int) :: bitsB (b / 2 + 128 * (shL c D).2) = bitsB b ++ [((shL c D).2 : Int)] := h1
    rw [← List.cons_append, h2, List.append_assoc]; rfl
theorem shL_lt : ∀ (D : List Nat) (c : Nat), (∀ b ∈ D, b < 256) → c < 2 → ∀ b ∈ (shL c D).1, b < 256
  | [], _, _, _, _, h => by cases h
  | b :: D, c, h, hc, x, hx => by
    have hb := h b (List.mem_cons_self ..)
    rcases List.mem_cons.1 hx with rfl | hx
    · exact (byte_down ⟨b, hb⟩ ⟨(shL c D).2, shL_c D c hc⟩).1
    · exact shL_lt D _ (fun x hx => h x (List.mem_cons_of_mem _ hx)) hc x hx

/-- One bit more at a place. -/
theorem VecIs.insert {D : List Nat} {l : List Int} {i b' : Nat} {x : Int} (h : VecIs D l) (hi : i < l.length) (hD : ∀ b ∈ roomy D l.length, b < 256)
    (hb : bitsB b' ++ [(((roomy D l.length).getD (i / 8) 0 / 128 : Nat) : Int)] = (bitsB ((roomy D l.length).getD (i / 8) 0)).take (i % 8) ++ x :: (bitsB ((roomy D l.length).getD (i / 8) 0)).drop (i % 8)) :
    VecIs ((roomy D l.length).take (i / 8) ++ b' :: shH ((roomy D l.length).getD (i / 8) 0 / 128) ((roomy D l.length).drop (i / 8 + 1))) (l.take i ++ x :: l.drop i) := by
  have hr := roomy_len h
  have hbits := roomy_bits h
  generalize roomy D l.length = E at *
  have hk : i / 8 < E.length := by omega
  have e1 : vbits E = vbits (E.take (i / 8)) ++ (bitsB (E.getD (i / 8) 0) ++ vbits (E.drop (i / 8 + 1))) := by
    conv => lhs; rw [split_at hk]
    rw [vbits_append, vbits_cons]
  have hl : (vbits (E.take (i / 8))).length = 8 * (i / 8) := by rw [vbits_len, List.length_take]; omega
  have hb7 : E.getD (i / 8) 0 / 128 < 2 := by
    have : E.getD (i / 8) 0 = E[i / 8] := by simp [hk]
    have := hD _ (List.getElem_mem hk)
    simp [hk]; omega
  obtain ⟨y, hy⟩ := shH_bits (E.drop (i / 8 + 1)) (E.getD (i / 8) 0 / 128) (fun b hb => hD b (List.mem_of_mem_drop hb)) hb7
  refine ⟨?_, ?_⟩
  · simp [shH_len]; omega
  · have e2 : vbits (E.take (i / 8) ++ b' :: shH (E.getD (i / 8) 0 / 128) (E.drop (i / 8 + 1))) ++ [y] = (vbits E).take i ++ x :: (vbits E).drop i := by
      have h3 := ins_mid (A := vbits (E.take (i / 8))) (B := bitsB (E.getD (i / 8) 0)) (C := vbits (E.drop (i / 8 + 1))) (o := i % 8) (x := x) (by rw [bitsB_len]; omega)
      rw [hl, show 8 * (i / 8) + i % 8 = i by omega, ← e1, ← hb] at h3
      rw [← h3, vbits_append, vbits_cons, List.append_assoc, List.append_assoc, hy]
      simp
    have hlen : (l.take i ++ x :: l.drop i).length = l.length + 1 := by simp; omega
    rw [hlen]
    have hv : (vbits (E.take (i / 8) ++ b' :: shH (E.getD (i / 8) 0 / 128) (E.drop (i / 8 + 1)))).length = 8 * E.length := by
      rw [vbits_len]; simp [shH_len]; omega
    have e3 : (vbits (E.take (i / 8) ++ b' :: shH (E.getD (i / 8) 0 / 128) (E.drop (i / 8 + 1)))).take (l.length + 1) = ((vbits E).take i ++ x :: (vbits E).drop i).take (l.length + 1) := by
      rw [← e2, List.take_append_of_le_length (by rw [hv]; omega)]
    rw [e3]
    have e4 : (vbits E).take i = l.take i := by
      rw [← hbits, List.take_take, Nat.min_eq_left (by omega)]
    have e5 : ((vbits E).drop i).take (l.length - i) = l.drop i := by
      rw [← List.drop_take, hbits]
    have h9 : (l.take i).length = i := by simp; omega
    rw [e4, List.take_append, h9, List.take_of_length_le (by omega), show l.length + 1 - i = (l.length - i) + 1 by omega, List.take_succ_cons, e5]

/-- One bit less. -/
theorem VecIs.erase {D : List Nat} {l : List Int} {i b' : Nat} (h : VecIs D l) (hi : i < l.length) (hD : ∀ b ∈ D, b < 256)
    (hb : bitsB b' = (bitsB (D.getD (i / 8) 0)).eraseIdx (i % 8) ++ [((shL 0 (D.drop (i / 8 + 1))).2 : Int)]) :
    VecIs ((D.take (i / 8) ++ b' :: (shL 0 (D.drop (i / 8 + 1))).1).take ((l.length - 1 + 7) / 8)) (l.eraseIdx i) := by
  have hs := h.size
  have hk : i / 8 < D.length := by omega
  have e1 : vbits D = vbits (D.take (i / 8)) ++ (bitsB (D.getD (i / 8) 0) ++ vbits (D.drop (i / 8 + 1))) := by
    conv => lhs; rw [split_at hk]
    rw [vbits_append, vbits_cons]
  have hl : (vbits (D.take (i / 8))).length = 8 * (i / 8) := by rw [vbits_len, List.length_take]; omega
  have h2 := shL_bits (D.drop (i / 8 + 1)) 0 (fun b hb => hD b (List.mem_of_mem_drop hb)) (by omega)
  have hEl : (D.take (i / 8) ++ b' :: (shL 0 (D.drop (i / 8 + 1))).1).length = D.length := by simp [shL_len]; omega
  have e2 : vbits (D.take (i / 8) ++ b' :: (shL 0 (D.drop (i / 8 + 1))).1) = (vbits D).eraseIdx i ++ [0] := by
    rw [vbits_append, vbits_cons, hb, List.append_assoc, List.singleton_append, h2, e1]
    rw [List.eraseIdx_append_of_length_le (by omega), hl, show i - 8 * (i / 8) = i % 8 by omega, List.eraseIdx_append_of_lt_length (by rw [bitsB_len]; omega)]
    simp
  have hle : (l.eraseIdx i).length = l.length - 1 := by rw [List.length_eraseIdx, if_pos hi]
  refine ⟨?_, ?_⟩
  · rw [List.length_take, hEl, hle]; omega
  · have e3 : ∀ (E : List Nat) (m j : Nat), j ≤ 8 * m → (vbits (E.take m)).take j = (vbits E).take j := by
      intro E m j hj
      conv => rhs; rw [← List.take_append_drop m E, vbits_append]
      rcases Nat.lt_or_ge m E.length with hm | hm
      · rw [List.take_append_of_le_length (by rw [vbits_len, List.length_take]; omega)]
      · rw [List.drop_eq_nil_of_le hm]; simp [vbits]
    rw [hle, e3 _ _ _ (by omega), e2]
    have hvl : (vbits D).length = 8 * D.length := vbits_len D
    rw [List.take_append_of_le_length (by rw [List.length_eraseIdx, hvl]; split <;> omega)]
    have e4 : l.eraseIdx i = ((vbits D).take l.length).eraseIdx i := by rw [h.bits]
    rw [e4, List.eraseIdx_eq_take_drop_succ, List.eraseIdx_eq_take_drop_succ, List.take_take, Nat.min_eq_left (by omega), List.drop_take, List.take_append, List.length_take, hvl, Nat.min_eq_left (by omega), List.take_of_length_le (by rw [List.length_take]; omega)]
    congr 2
    omega

/-! ### the bytes that the code computes -/
theorem byte_set1 : ∀ b : Fin 256, ∀ o : Fin 8, ∃ b' : Fin 256, bits .or .u8 (b.val : Int) ((2 : Int) ^ o.val % 256) = (b'.val : Int) ∧ bitsB b'.val = (bitsB b.val).set o.val 1 := by
  have h : ∀ b : Fin 256, ∀ o : Fin 8, bits .or .u8 (b.val : Int) ((2 : Int) ^ o.val % 256) = (((b.val ||| 2 ^ o.val) % 256 : Nat) : Int) ∧ bitsB ((b.val ||| 2 ^ o.val) % 256) = (bitsB b.val).set o.val 1 := by decide +kernel
  exact fun b o => ⟨⟨(b.val ||| 2 ^ o.val) % 256, Nat.mod_lt _ (by omega)⟩, h b o⟩
theorem byte_set0 : ∀ b : Fin 256, ∀ o : Fin 8, ∃ b' : Fin 256, bits .and .u8 (b.val : Int) (bits .xor .u8 IntKind.u8.max ((2 : Int) ^ o.val % 256)) = (b'.val : Int) ∧ bitsB b'.val = (bitsB b.val).set o.val 0 := by
  have h : ∀ b : Fin 256, ∀ o : Fin 8, bits .and .u8 (b.val : Int) (bits .xor .u8 IntKind.u8.max ((2 : Int) ^ o.val % 256)) = (((b.val &&& (255 - 2 ^ o.val)) % 256 : Nat) : Int) ∧ bitsB ((b.val &&& (255 - 2 ^ o.val)) % 256) = (bitsB b.val).set o.val 0 := by decide +kernel
  exact fun b o => ⟨⟨(b.val &&& (255 - 2 ^ o.val)) % 256, Nat.mod_lt _ (by omega)⟩, h b o⟩
theorem byte_get : ∀ b : Fin 256, ∀ o : Fin 8, bits .and .u8 ((b.val : Int) / 2 ^ o.val) 1 = (bitsB b.val).getD o.val 0 := by decide +kernel
theorem byte_h : ∀ b : Fin 256, ∀ c : Fin 2, bits .or .u8 ((b.val : Int) * 2 % 256) (c.val : Int) = ((b.val * 2 % 256 + c.val : Nat) : Int) ∧ bits .and .u8 (b.val : Int) 128 / 128 = ((b.val / 128 : Nat) : Int) := by decide +kernel
theorem byte_l : ∀ b : Fin 256, ∀ c : Fin 2, bits .or .u8 ((b.val : Int) / 2) ((128 * c.val : Nat) : Int) = ((b.val / 2 + 128 * c.val : Nat) : Int) ∧ bits .and .u8 (b.val : Int) 1 * 128 % 256 = ((128 * (b.val % 2) : Nat) : Int) := by decide +kernel

/-- The bit that comes out on top. -/
def cyH : Nat → List Nat → Nat
  | c, [] => c
  | _, b :: D => cyH (b / 128) D
theorem shH_append : ∀ (D E : List Nat) (c : Nat), shH c (D ++ E) = shH c D ++ shH (cyH c D) E
  | [], _, _ => rfl
  | b :: D, E, c => by
    show (b * 2 % 256 + c) :: shH (b / 128) (D ++ E) = (b * 2 % 256 + c) :: (shH (b / 128) D ++ shH (cyH (b / 128) D) E)
    rw [shH_append D E]
theorem cyH_snoc : ∀ (D : List Nat) (b c : Nat), cyH c (D ++ [b]) = b / 128
  | [], _, _ => rfl
  | _ :: D, b, _ => cyH_snoc D b _
theorem cyH_lt : ∀ (D : List Nat) (c : Nat), (∀ b ∈ D, b < 256) → c < 2 → cyH c D < 2
  | [], _, _, h => h
  | b :: D, _, h, _ => cyH_lt D _ (fun x hx => h x (List.mem_cons_of_mem _ hx)) (by have := h b (List.mem_cons_self ..); omega)
theorem byte_ins1 : ∀ b : Fin 256, ∀ o : Fin 8, ∃ b' : Fin 256, bits .or .u8 (bits .or .u8 ((2 : Int) ^ o.val % 256) (bits .and .u8 (b.val : Int) (((2 : Int) ^ o.val - 1) % 256))) (bits .and .u8 (b.val : Int) (bits .xor .u8 IntKind.u8.max (((2 : Int) ^ o.val - 1) % 256)) * 2 % 256) = (b'.val : Int) ∧ bitsB b'.val ++ [((b.val / 128 : Nat) : Int)] = (bitsB b.val).take o.val ++ 1 :: (bitsB b.val).drop o.val := by
  have h : ∀ b : Fin 256, ∀ o : Fin 8, bits .or .u8 (bits .or .u8 ((2 : Int) ^ o.val % 256) (bits .and .u8 (b.val : Int) (((2 : Int) ^ o.val - 1) % 256))) (bits .and .u8 (b.val : Int) (bits .xor .u8 IntKind.u8.max (((2 : Int) ^ o.val - 1) % 256)) * 2 % 256) = (((2 ^ o.val + b.val % 2 ^ o.val + (b.val / 2 ^ o.val * 2 ^ o.val) * 2) % 256 : Nat) : Int) ∧ bitsB ((2 ^ o.val + b.val % 2 ^ o.val + (b.val / 2 ^ o.val * 2 ^ o.val) * 2) % 256) ++ [((b.val / 128 : Nat) : Int)] = (bitsB b.val).take o.val ++ 1 :: (bitsB b.val).drop o.val := by decide +kernel
  exact fun b o => ⟨⟨(2 ^ o.val + b.val % 2 ^ o.val + (b.val / 2 ^ o.val * 2 ^ o.val) * 2) % 256, Nat.mod_lt _ (by omega)⟩, h b o⟩
theorem byte_ins0 : ∀ b : Fin 256, ∀ o : Fin 8, ∃ b' : Fin 256, bits .or .u8 (bits .or .u8 (0) (bits .and .u8 (b.val : Int) (((2 : Int) ^ o.val - 1) % 256))) (bits .and .u8 (b.val : Int) (bits .xor .u8 IntKind.u8.max (((2 : Int) ^ o.val - 1) % 256)) * 2 % 256) = (b'.val : Int) ∧ bitsB b'.val ++ [((b.val / 128 : Nat) : Int)] = (bitsB b.val).take o.val ++ 0 :: (bitsB b.val).drop o.val := by
  have h : ∀ b : Fin 256, ∀ o : Fin 8, bits .or .u8 (bits .or .u8 (0) (bits .and .u8 (b.val : Int) (((2 : Int) ^ o.val - 1) % 256))) (bits .and .u8 (b.val : Int) (bits .xor .u8 IntKind.u8.max (((2 : Int) ^ o.val - 1) % 256)) * 2 % 256) = (((0 + b.val % 2 ^ o.val + (b.val / 2 ^ o.val * 2 ^ o.val) * 2) % 256 : Nat) : Int) ∧ bitsB ((0 + b.val % 2 ^ o.val + (b.val / 2 ^ o.val * 2 ^ o.val) * 2) % 256) ++ [((b.val / 128 : Nat) : Int)] = (bitsB b.val).take o.val ++ 0 :: (bitsB b.val).drop o.val := by decide +kernel
  exact fun b o => ⟨⟨(0 + b.val % 2 ^ o.val + (b.val / 2 ^ o.val * 2 ^ o.val) * 2) % 256, Nat.mod_lt _ (by omega)⟩, h b o⟩
theorem byte_del : ∀ b : Fin 256, ∀ o : Fin 8, ∀ c : Fin 2, ∃ b' : Fin 256, bits .or .u8 (bits .and .u8 (((2 : Int) ^ o.val - 1) % 256) (b.val : Int)) (bits .or .u8 (bits .and .u8 (b.val : Int) (bits .xor .u8 IntKind.u8.max (((2 : Int) ^ (o.val + 1) - 1) % 256)) / 2) ((c.val : Int) * 128)) = (b'.val : Int) ∧ bitsB b'.val = (bitsB b.val).eraseIdx o.val ++ [(c.val : Int)] := by
  have h : ∀ b : Fin 256, ∀ o : Fin 8, ∀ c : Fin 2, bits .or .u8 (bits .and .u8 (((2 : Int) ^ o.val - 1) % 256) (b.val : Int)) (bits .or .u8 (bits .and .u8 (b.val : Int) (bits .xor .u8 IntKind.u8.max (((2 : Int) ^ (o.val + 1) - 1) % 256)) / 2) ((c.val : Int) * 128)) = (((b.val % 2 ^ o.val + b.val / 2 ^ (o.val + 1) * 2 ^ o.val + 128 * c.val) % 256 : Nat) : Int) ∧ bitsB ((b.val % 2 ^ o.val + b.val / 2 ^ (o.val + 1) * 2 ^ o.val + 128 * c.val) % 256) = (bitsB b.val).eraseIdx o.val ++ [(c.val : Int)] := by decide +kernel
  exact fun b o c => ⟨⟨(b.val % 2 ^ o.val + b.val / 2 ^ (o.val + 1) * 2 ^ o.val + 128 * c.val) % 256, Nat.mod_lt _ (by omega)⟩, h b o c⟩
end Go.Proofs.Ytammpllfmbmdmaa
