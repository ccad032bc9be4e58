/- Steps laid in a row of the call's own; the plain law of FnBitsOf. No condition but sizes. -/
import Derived.Test.YtammpllfmbmdmaaBc
import Derived.Laws.IdiomStrings
namespace Go.Proofs.Ytammpllfmbmdmaa
open Go.RowKit

theorem flat_cells {α : Type} (f : α → List Value) (k : Nat) (hf : ∀ x, (f x).length = k) : ∀ {P : List α} {i : Nat} {p : α}, P[i]? = some p → ∀ q, q < k → (P.flatMap f)[i * k + q]? = (f p)[q]?
  | [], i, p, h, _, _ => by simp at h
  | x :: P, 0, p, h, q, hq => by
    obtain rfl : x = p := by simpa using h
    rw [List.flatMap_cons, Nat.zero_mul, Nat.zero_add, List.getElem?_append_left (by rw [hf]; exact hq)]
  | x :: P, i + 1, p, h, q, hq => by
    rw [List.flatMap_cons, List.getElem?_append_right (by rw [hf, Nat.add_mul]; omega), hf, show (i + 1) * k + q - k = i * k + q by rw [Nat.add_mul]; omega]
    exact flat_cells f k hf (by simpa using h) q hq

/-- The cells of steps whose lists are nil. -/
def stepFlat (S : List StepD) : List Value := S.flatMap (fun s => (s.cells (.slice none 0 0)).toList)
theorem stepFlat_snoc (S : List StepD) (s : StepD) : stepFlat (S ++ [s]) = stepFlat S ++ (s.cells (.slice none 0 0)).toList := by simp [stepFlat]
theorem info29 : (Try.prog.info? 29).map (fun i => (i.zero, i.size, i.bytes)) = some (some (.agg #[.int .i64 0, .int .i64 0, .int .i64 0, .int .i64 0, .int .i64 0, .int .i64 0, .int .i64 0, .slice none 0 0]), 8, 80) := by kernel_rfl

theorem steps_own {w : World} {base : Nat} {v : Value} {S : List StepD} (h : w.ownsRow base 29 8 v S.length (stepFlat S)) (hl : ∀ s ∈ S, s.list = []) :
    ∃ A c, v = .slice A S.length c ∧ S.length ≤ maxLen ∧ StepsIn w (fun _ => True) A S.length S := by
  rcases h.2 with ⟨rfl, h0⟩ | ⟨g, cap, cur, rfl, _, hh, hc, hm, _⟩
  · rw [h0]
    exact ⟨none, 0, rfl, by simp [maxLen], h0, fun i hi => by omega⟩
  · refine ⟨_, _, rfl, Nat.le_trans hc hm, rfl, fun i hi => ?_⟩
    have hp : S[i]? = some S[i] := List.getElem?_eq_getElem hi
    have hlt : g < w.heap.size := (Array.getElem?_eq_some_iff.1 hh).1
    have hcell := h.cells (g := g) rfl
    have hat := fun q hq => flat_cells (fun s : StepD => (s.cells (.slice none 0 0)).toList) 8 (fun _ => rfl) hp q hq
    have each : ∀ q, q < 8 → w.cell? ⟨g, i * 8 + q, none⟩ = (S[i].cells (.slice none 0 0))[q]? := by
      intro q hq
      have h1 := hat q hq
      have h2 : (S[i].cells (.slice none 0 0))[q]? = some ((S[i].cells (.slice none 0 0))[q]'(by simpa [StepD.cells] using hq)) := Array.getElem?_eq_getElem _
      have := hcell (i * 8 + q) _ (h1.trans (by rw [Array.getElem?_toList]; exact h2))
      rw [add_plain, Nat.zero_add] at this
      rw [this, h2]
    have hli := hl S[i] (List.getElem_mem hi)
    refine ⟨_, S[i], none, 0, rfl, hp, ?_⟩
    rw [add_plain, Nat.zero_add]
    refine ⟨⟨trivial, hlt⟩, by rw [hli]; exact SliceIs.none_, each 0 (by omega), each 1 (by omega), each 2 (by omega), each 3 (by omega), each 4 (by omega), each 5 (by omega), each 6 (by omega), ?_⟩
    rw [hli]; exact each 7 (by omega)

/-- 'append(out, Step{..})'. -/
theorem wpList_append_step {ops : Array Oper} {rest : List Oper} {o : Oper} {act : Act} {Q : Exit → Act → World → Prop} (hgd : o.guard = none) (s x : Operand) (t : TypeId)
    (ho : o.op = .call { callee := .builtin .append, args := #[s, x], argTypes := #[t, t] })
    (i : TypeInfo) (z : Value) (ht : Try.prog.underlying t = some (.slice 29)) (hi : Try.prog.info? 29 = some i) (hz : i.zero = some z) (hs : i.size = 8) (hby : i.bytes = 80) (hzs : z.cells.size = 8)
    (w3 : World) (base : Nat) (v : Value) (m : Nat) (xs : List Value) (hown : w3.ownsRow base 29 8 v m xs) (st : StepD)
    (hsv : act.eval s = v) (hxv : act.eval x = .slice (some ⟨w3.heap.size, 0, none⟩) 1 1) (hm : m ≤ 1000000) (hbase : base ≤ w3.heap.size)
    (h : ∀ v' w', w'.ownsRow base 29 8 v' (m + 1) (xs ++ (st.cells (.slice none 0 0)).toList) → Chg (fun g => v.ownBlock = some g) w3 w' → wpList Try.prog ops Q rest (act.put o.dst v') w') :
    wpList Try.prog ops Q (o :: rest) act (w3.alloc (.cells (st.cells (.slice none 0 0)) 29)) := by
  refine wpList_append_own_at _ hgd s x t ho base 29 i z 8 80 ht hi hz hs hby hzs (by decide) v m xs hsv (hown.alloc _) ⟨w3.heap.size, 0, none⟩ 1 1 (st.cells (.slice none 0 0)).toList hxv rfl ?_ ?_ (by unfold maxLen; omega) (by omega) (by simp; omega) ?_
  · have h := cells_new w3 (st.cells (.slice none 0 0)).toList 29
    exact h
  · intro u hu
    simp [StepD.cells] at hu
    rcases hu with rfl | rfl | rfl | rfl | rfl | rfl | rfl | rfl <;> rfl
  · intro v' w' h1 h2 _ h3
    exact h v' w' h1 (((Chg.refl (fun g => v.ownBlock = some g) w3).alloc _).trans (Chg.ofGrown (S := fun g => v.ownBlock = some g) h2 (fun g hg _ => hg)) (fun _ _ h => h))

/-! ### the plain law -/
def askS (n : Nat) : List StepD := (List.range n).map (fun i : Nat => ⟨4, 0, (i : Int), 0, 0, 0, 0, []⟩)
def putS (L : List AnsD) : List StepD := L.map (fun a => ⟨0, 0, 0, a.n, 0, 0, 0, []⟩)
theorem askS_len (n : Nat) : (askS n).length = n := by simp [askS]
theorem putS_len (L : List AnsD) : (putS L).length = L.length := by simp [putS]
theorem askS_succ (n : Nat) : askS (n + 1) = askS n ++ [⟨4, 0, (n : Int), 0, 0, 0, 0, []⟩] := by simp [askS, List.range_succ]
theorem putS_snoc (L : List AnsD) (a : AnsD) : putS (L ++ [a]) = putS L ++ [⟨0, 0, 0, a.n, 0, 0, 0, []⟩] := by simp [putS]
theorem ask_out (l : List Int) : ∀ S : List StepD, (∀ s ∈ S, s.what = 4) → stF stepB l S = l ∧ outF stepB l S = S.map (fun s => ⟨l.getD s.index.toNat 0, false, [], false⟩)
  | [], _ => ⟨rfl, rfl⟩
  | s :: S, h => by
    have h0 := h s (List.mem_cons_self ..)
    have hs : stepB l s = (l, some ⟨l.getD s.index.toNat 0, false, [], false⟩) := by simp [stepB, h0]
    have ih := ask_out l S (fun t ht => h t (List.mem_cons_of_mem _ ht))
    constructor
    · show stF stepB (stepB l s).1 S = l
      rw [hs]; exact ih.1
    · rw [outF_some (a := ⟨l.getD s.index.toNat 0, false, [], false⟩) (by rw [hs]), hs, List.map_cons]
      show _ :: outF stepB l S = _
      rw [ih.2]
theorem ask_good (l : List Int) (hl : l.length ≤ 9999) : ∀ S : List StepD, (∀ s ∈ S, s.what = 4 ∧ 0 ≤ s.index ∧ s.index < l.length) → goodF stepB goodB l S
  | [], _ => trivial
  | s :: S, h => by
    have h0 := h s (List.mem_cons_self ..)
    have hs : (stepB l s).1 = l := by simp [stepB, h0.1]
    refine ⟨⟨hl, Or.inr (Or.inr (Or.inl ⟨Or.inr h0.1, h0.2⟩))⟩, fun _ => ?_⟩
    rw [hs]
    exact ask_good l hl S (fun t ht => h t (List.mem_cons_of_mem _ ht))
theorem put_st : ∀ (L : List AnsD) (l : List Int), stF stepB l (putS L) = l ++ L.map (·.n)
  | [], l => by simp [putS, stF]
  | a :: L, l => by
    show stF stepB (stepB l ⟨0, 0, 0, a.n, 0, 0, 0, []⟩).1 (putS L) = _
    rw [show (stepB l ⟨0, 0, 0, a.n, 0, 0, 0, []⟩).1 = l ++ [a.n] by simp [stepB], put_st L]
    simp
theorem put_good : ∀ (L : List AnsD) (l : List Int), (∀ a ∈ L, a.n = 0 ∨ a.n = 1) → l.length + L.length ≤ 9999 → goodF stepB goodB l (putS L)
  | [], _, _, _ => trivial
  | a :: L, l, h, hl => by
    simp only [List.length_cons] at hl
    refine ⟨⟨by omega, Or.inl ⟨rfl, h a (List.mem_cons_self ..)⟩⟩, fun _ => ?_⟩
    show goodF stepB goodB (stepB l ⟨0, 0, 0, a.n, 0, 0, 0, []⟩).1 (putS L)
    rw [show (stepB l ⟨0, 0, 0, a.n, 0, 0, 0, []⟩).1 = l ++ [a.n] by simp [stepB]]
    exact put_good L _ (fun b hb => h b (List.mem_cons_of_mem _ hb)) (by simp; omega)

def unB : List Int → Int
  | [] => 0
  | x :: l => x + 2 * unB l
theorem unB_bitsB : ∀ b : Fin 256, unB (bitsB b.val) = b.val := by decide +kernel
theorem bitsB_inj {a b : Nat} (ha : a < 256) (hb : b < 256) (h : bitsB a = bitsB b) : a = b := by
  have h1 := unB_bitsB ⟨a, ha⟩
  have h2 := unB_bitsB ⟨b, hb⟩
  simp only at h1 h2
  rw [h] at h1
  omega
theorem vbits_inj : ∀ (D E : List Nat), D.length = E.length → (∀ b ∈ D, b < 256) → (∀ b ∈ E, b < 256) → vbits D = vbits E → D = E
  | [], [], _, _, _, _ => rfl
  | [], _ :: _, h, _, _, _ => by cases h
  | _ :: _, [], h, _, _, _ => by cases h
  | a :: D, b :: E, h, h1, h2, h3 => by
    rw [vbits_cons, vbits_cons] at h3
    have h4 := List.append_inj h3 rfl
    rw [bitsB_inj (h1 a (List.mem_cons_self ..)) (h2 b (List.mem_cons_self ..)) h4.1, vbits_inj D E (by simpa using h) (fun x hx => h1 x (List.mem_cons_of_mem _ hx)) (fun x hx => h2 x (List.mem_cons_of_mem _ hx)) h4.2]
theorem vec_all (D : List Nat) : VecIs D (vbits D) := ⟨by rw [vbits_len]; omega, by rw [List.take_length]⟩
theorem vec_unique {D E : List Nat} (h : VecIs E (vbits D)) (hD : ∀ b ∈ D, b < 256) (hE : ∀ b ∈ E, b < 256) : E = D := by
  have h1 := h.size
  rw [vbits_len] at h1
  have h2 : E.length = D.length := by omega
  have h3 := h.bits
  rw [List.take_of_length_le (by rw [vbits_len, vbits_len]; omega)] at h3
  exact vbits_inj E D h2 hE hD h3
theorem vbits_bit : ∀ (D : List Nat), ∀ x ∈ vbits D, x = 0 ∨ x = 1
  | [], _, h => by cases h
  | b :: D, x, h => by
    rw [vbits_cons] at h
    rcases List.mem_append.1 h with h | h
    · unfold bitsB at h
      simp only [List.mem_cons, List.not_mem_nil, or_false] at h
      omega
    · exact vbits_bit D x h

/-- The answers to all questions are the bits. -/
theorem ask_bits (D : List Nat) : (outF stepB (vbits D) (askS (8 * D.length))).map (·.n) = vbits D := by
  rw [(ask_out (vbits D) _ (fun s hs => by obtain ⟨i, _, rfl⟩ := List.mem_map.1 hs; rfl)).2]
  unfold askS
  rw [List.map_map, List.map_map]
  apply List.ext_getElem
  · simp [vbits_len]
  · intro i h1 h2
    simp [List.getD_eq_getElem?_getD, List.getElem?_eq_getElem h2]

/-! ### bytes as a text -/
def bytesStr (D : List Nat) : ByteArray := ⟨(D.map UInt8.ofNat).toArray⟩
set_option maxRecDepth 100000 in
theorem conv43 {w : World} {K : Nat → Prop} {A : Option Addr} {n c : Nat} {D : List Nat} (hr : Reads w K 1 A n (bytes D)) (hnil : A = none → n = 0 ∧ c = 0) (hlt : ∀ b ∈ D, b < 256) :
    (convert 43 9 (.slice A n c)).run Try.prog w = .ok (.string (bytesStr D)) w := by
  have hD : D.length = n := by have := hr.1; simpa using this
  cases A with
  | none =>
    obtain ⟨rfl, rfl⟩ := hnil rfl
    obtain rfl : D = [] := List.eq_nil_of_length_eq_zero hD
    rfl
  | some ad =>
    have h := run_convert_bytes_back (P := Try.prog) w 43 9 5 ad c (D.map UInt8.ofNat) Try.underlying43 Try.underlying5 Try.underlying9 (by
      intro j hj
      have hj2 : j < D.length := by simpa using hj
      obtain ⟨ad', e, _, _, hc⟩ := hr.2 (by omega)
      injection e with e
      subst e
      have hb := hlt D[j] (List.getElem_mem hj2)
      rw [hc j (.int .u8 ((D[j] : Nat) : Int)) (by rw [List.getElem?_map, List.getElem?_eq_getElem hj2]; rfl)]
      simp
      omega)
    rw [List.length_map, hD] at h
    exact h
theorem conv_own {w : World} {base : Nat} {v : Value} {D : List Nat} (ho : w.ownsRow base 5 1 v D.length (bytes D)) (hlt : ∀ b ∈ D, b < 256) : ∀ W, Gr w W → (convert 43 9 v).run Try.prog W = .ok (.string (bytesStr D)) W := by
  intro W hW
  have h1 := hW.own _ _ _ _ _ _ ho
  obtain ⟨A, c, rfl, hr⟩ := own_reads h1
  exact conv43 hr (fun h => by
    have h2 := own_nil h1 h
    have h3 := own_cap h1
    omega) hlt
end Go.Proofs.Ytammpllfmbmdmaa
