/- Plain law of updateGroups: the bounds between unlike keys, and what is behind each bound. No condition. -/
import Derived.Test.YtaihafoopoaahaaSu1
namespace Go.Proofs.Ytaihafoopoaahaa
open Go.RowKit

/-- The bounds below i. -/
def bl (K : Nat → Int) (i : Nat) : List Nat := (List.range' 1 (i - 1)).filter (fun j => decide (K (j - 1) < K j))

theorem bl_one (K : Nat → Int) : bl K 1 = [] := rfl
theorem bl_succ (K : Nat → Int) {i : Nat} (hi : 1 ≤ i) : bl K (i + 1) = bl K i ++ (if K (i - 1) < K i then [i] else []) := by
  unfold bl
  rw [show i + 1 - 1 = (i - 1) + 1 by omega, List.range'_concat, List.filter_append]
  congr 1
  rw [show 1 + 1 * (i - 1) = i by omega]
  by_cases h : K (i - 1) < K i <;> simp [h]
theorem bl_len (K : Nat → Int) (i : Nat) : (bl K i).length ≤ i := by
  have := List.length_filter_le (fun j => decide (K (j - 1) < K j)) (List.range' 1 (i - 1))
  unfold bl
  simp at this ⊢
  omega

/-- What the bounds behind prev are. -/
def Gs (K : Nat → Int) (sz : Nat) : Nat → List Nat → Prop
  | prev, [] => prev = sz
  | prev, b :: r => prev < b ∧ b ≤ sz ∧ (b = sz ∨ K (b - 1) < K b) ∧ (∀ j, prev < j → j < b → ¬ K (j - 1) < K j) ∧ Gs K sz b r

theorem gs_from (K : Nat → Int) (sz : Nat) : ∀ m prev q, prev < q → q + m = sz → (∀ j, prev < j → j < q → ¬ K (j - 1) < K j) →
    Gs K sz prev ((List.range' q m).filter (fun j => decide (K (j - 1) < K j)) ++ [sz])
  | 0, prev, q, h1, h2, h3 => by
    obtain rfl : q = sz := by omega
    exact ⟨h1, Nat.le_refl _, Or.inl rfl, h3, rfl⟩
  | m + 1, prev, q, h1, h2, h3 => by
    rw [List.range'_succ, List.filter_cons]
    by_cases h : K (q - 1) < K q
    · rw [if_pos (by simpa using h)]
      exact ⟨h1, by omega, Or.inr h, h3, gs_from K sz m q (q + 1) (by omega) (by omega) (fun j h4 h5 => by omega)⟩
    · rw [if_neg (by simpa using h)]
      refine gs_from K sz m prev (q + 1) (by omega) (by omega) (fun j h4 h5 => ?_)
      by_cases h6 : j = q
      · subst h6; exact h
      · exact h3 j h4 (by omega)

theorem gs_all (K : Nat → Int) {sz : Nat} (h : 1 ≤ sz) : Gs K sz 0 (bl K sz ++ [sz]) :=
  gs_from K sz (sz - 1) 0 1 (by omega) (by omega) (fun j h1 h2 => by omega)

/-- A group of like keys. -/
def Grp (K : Nat → Int) (sz a b : Nat) : Prop := (a = 0 ∨ K (a - 1) < K a) ∧ (b = sz ∨ K (b - 1) < K b) ∧ ∀ j, a < j → j < b → ¬ K (j - 1) < K j

/-- The groups below q have their numbers and marks. -/
structure Split (K : Nat → Int) (lo sz : Nat) (d : Array Nat) (I S : Nat → Int) (q : Nat) (I' S' : Nat → Int) : Prop where
  fin : ∀ i, i < q → ∃ a b, a ≤ i ∧ i < b ∧ b ≤ q ∧ Grp K sz a b ∧ I' d[i]! = ((lo + b : Nat) : Int) - 1 ∧ S' (lo + i) = if b = a + 1 then -1 else S (lo + i)
  todo : ∀ i, q ≤ i → i < sz → I' d[i]! = I d[i]! ∧ S' (lo + i) = S (lo + i)
  farI : ∀ p, (∀ i, i < sz → d[i]! ≠ p) → I' p = I p
  farS : ∀ k, (k < lo ∨ lo + sz ≤ k) → S' k = S k

theorem Split.start (K : Nat → Int) (lo sz : Nat) (d : Array Nat) (I S : Nat → Int) : Split K lo sz d I S 0 I S :=
  ⟨fun i h => absurd h (by omega), fun i _ _ => ⟨rfl, rfl⟩, fun _ _ => rfl, fun _ _ => rfl⟩

/-- In the middle of one group: the numbers of [q, i) are laid. -/
structure Mid (lo b : Nat) (d : Array Nat) (I' : Nat → Int) (q i : Nat) (I2 : Nat → Int) : Prop where
  fin : ∀ j, q ≤ j → j < i → I2 d[j]! = ((lo + b : Nat) : Int) - 1
  far : ∀ p, (∀ j, q ≤ j → j < i → d[j]! ≠ p) → I2 p = I' p

theorem Mid.start (lo b : Nat) (d : Array Nat) (I' : Nat → Int) (q : Nat) : Mid lo b d I' q q I' := ⟨fun j _ _ => by omega, fun _ _ => rfl⟩
theorem Mid.next {lo b : Nat} {d : Array Nat} {I' : Nat → Int} {q i : Nat} {I2 : Nat → Int} (h : Mid lo b d I' q i I2) (hqi : q ≤ i) :
    Mid lo b d I' q (i + 1) (upd I2 d[i]! (((lo + b : Nat) : Int) - 1)) := by
  refine ⟨fun j h1 h2 => ?_, fun p hp => ?_⟩
  · unfold upd
    by_cases h3 : d[j]! = d[i]!
    · rw [if_pos h3]
    · rw [if_neg h3]
      exact h.fin j h1 (by rcases Nat.lt_or_ge j i with h4 | h4; exact h4; exact absurd (show d[j]! = d[i]! by rw [show j = i by omega]) h3)
  · unfold upd
    rw [if_neg (fun e => hp i hqi (by omega) e.symm)]
    exact h.far p (fun j h1 h2 => hp j h1 (by omega))

theorem Split.next {K : Nat → Int} {lo sz : Nat} {d : Array Nat} {I S : Nat → Int} {q b : Nat} {I' S' I2 : Nat → Int} (h : Split K lo sz d I S q I' S')
    (hd : ∀ i j, i < sz → j < sz → d[i]! = d[j]! → i = j) (hqb : q < b) (hb : b ≤ sz) (hg : Grp K sz q b) (hm : Mid lo b d I' q b I2) :
    Split K lo sz d I S b I2 (if b = q + 1 then upd S' (lo + q) (-1) else S') := by
  refine ⟨fun i hi => ?_, fun i h1 h2 => ?_, fun p hp => ?_, fun k hk => ?_⟩
  · by_cases hiq : i < q
    · obtain ⟨a, c, h1, h2, h3, h4, h5, h6⟩ := h.fin i hiq
      refine ⟨a, c, h1, h2, by omega, h4, ?_, ?_⟩
      · rw [hm.far _ (fun j h7 h8 e => by have := hd j i (by omega) (by omega) e; omega)]
        exact h5
      · rw [← h6]
        split
        · unfold upd; rw [if_neg (by omega)]
        · rfl
    · refine ⟨q, b, by omega, hi, Nat.le_refl _, hg, hm.fin i (by omega) hi, ?_⟩
      split
      · unfold upd; rw [if_pos (by omega)]
      · exact (h.todo i (by omega) (by omega)).2
  · refine ⟨(hm.far _ (fun j h7 h8 e => by have := hd j i (by omega) (by omega) e; omega)).trans (h.todo i (by omega) h2).1, ?_⟩
    have := (h.todo i (by omega) h2).2
    split
    · unfold upd; rw [if_neg (by omega)]; exact this
    · exact this
  · exact (hm.far p (fun j h7 h8 => hp j (by omega))).trans (h.farI p hp)
  · have := h.farS k hk
    split
    · unfold upd; rw [if_neg (by omega)]; exact this
    · exact this

/-- The sortable in memory, its row whatever it holds. -/
structure UM (sb blk ib n lo sz cap h : Nat) (buf : Value) (I S : Nat → Int) (W : World) : Prop where
  st : Blk W sb 41 #[.slice (some ⟨blk, lo, none⟩) sz cap, .slice (some ⟨ib, 0, none⟩) n n, .int .i64 h, buf]
  inv : Blk W ib 3 (arr n I)
  sa : Blk W blk 3 (arr n S)

section
variable {sb blk ib n lo sz cap h : Nat} {buf : Value} {I S : Nat → Int} {W W' : World}
theorem Row.um {d : Array Nat} (hR : Row sb blk ib n lo sz cap h buf I S W d) : UM sb blk ib n lo sz cap h buf I (seg S lo d) W := ⟨hR.st, hR.inv, hR.sa⟩
theorem UM.chg {T : Nat → Prop} (u : UM sb blk ib n lo sz cap h buf I S W) (hc : Chg T W W') (h1 : ¬ T sb) (h2 : ¬ T ib) (h3 : ¬ T blk) : UM sb blk ib n lo sz cap h buf I S W' :=
  ⟨u.st.chg hc h1, u.inv.chg hc h2, u.sa.chg hc h3⟩
theorem UM.setI (u : UM sb blk ib n lo sz cap h buf I S W) (h1 : sb ≠ ib) (h2 : ib ≠ blk) (p : Nat) (v : Int) : UM sb blk ib n lo sz cap h buf (upd I p v) S (W.setCell ⟨ib, p, none⟩ (.int .i64 v)) :=
  ⟨u.st.far h1 _, u.inv.iset p v, u.sa.far (Ne.symm h2) _⟩
theorem UM.setS (u : UM sb blk ib n lo sz cap h buf I S W) (h1 : sb ≠ blk) (h2 : ib ≠ blk) (p : Nat) (v : Int) : UM sb blk ib n lo sz cap h buf I (upd S p v) (W.setCell ⟨blk, p, none⟩ (.int .i64 v)) :=
  ⟨u.st.far h1 _, u.inv.far h2 _, u.sa.iset p v⟩
theorem UM.setB (u : UM sb blk ib n lo sz cap h buf I S W) (h1 : sb ≠ blk) (h2 : sb ≠ ib) (v : Value) : UM sb blk ib n lo sz cap h v I S (W.setCell ⟨sb, 3, none⟩ v) := by
  refine ⟨?_, u.inv.far (Ne.symm h2) _, u.sa.far (Ne.symm h1) _⟩
  have := u.st.set_ 3 v
  simpa using this
theorem UM.drewN (u : UM sb blk ib n lo sz cap h buf I S W) (m : Nat) : UM sb blk ib n lo sz cap h buf I S (W.drewN m) := ⟨u.st.drewN m, u.inv.drewN m, u.sa.drewN m⟩
theorem UM.drew (u : UM sb blk ib n lo sz cap h buf I S W) : UM sb blk ib n lo sz cap h buf I S W.drew := ⟨u.st.drew, u.inv.drew, u.sa.drew⟩
end
end Go.Proofs.Ytaihafoopoaahaa
