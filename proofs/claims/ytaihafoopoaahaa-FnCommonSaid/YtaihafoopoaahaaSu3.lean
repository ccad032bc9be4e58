/- The walk of updateGroups. Under sizes alone. -/
import Derived.Test.YtaihafoopoaahaaSu2
namespace Go.Proofs.Ytaihafoopoaahaa
open Go.RowKit

theorem info3 : (Try.prog.info? 3).map (fun i => (i.zero, i.size, i.bytes)) = some (some (.int .i64 0), 1, 8) := by kernel_rfl

theorem own_cap {w : World} {base : Nat} {e : TypeId} {n : Nat} {A : Option Addr} {c : Nat} {xs : List Value} (h : w.ownsRow base e 1 (.slice A n c) n xs) : n ≤ c ∧ c ≤ maxLen := by
  rcases h.2 with ⟨h1, h2⟩ | ⟨g, cap, cur, h1, _, _, h4, h5, _⟩
  · injection h1 with _ h1 h2; subst h2; subst h1; unfold maxLen; omega
  · injection h1 with _ _ h1; subst h1; exact ⟨h4, h5⟩
theorem own_below {w w' : World} {base : Nat} {e : TypeId} {size n : Nat} {v : Value} {xs : List Value} {T : Nat → Prop} (h : w.ownsRow base e size v n xs) (hc : Chg T w w') (hT : ∀ i, v.ownBlock = some i → ¬ T i) : w'.ownsRow base e size v n xs := by
  refine ⟨h.1, ?_⟩
  rcases h.2 with h1 | ⟨g, cap, cur, rfl, h2, h3, h4⟩
  · exact Or.inl h1
  · exact Or.inr ⟨g, cap, cur, rfl, h2, (hc.block g (Array.getElem?_eq_some_iff.1 h3).1 (hT g rfl)).trans h3, h4⟩

section
variable {sb blk ib n lo sz cap h : Nat} {buf : Value} {I S : Nat → Int} {W : World} {d : Array Nat}

/-- What the first loop has made: bounds so far, the row as it was. -/
structure B1 (sb blk ib n lo sz cap h : Nat) (buf : Value) (I S : Nat → Int) (d : Array Nat) (W0 : World) (B0 : Nat) (v : Value) (xs : List Nat) (W : World) : Prop where
  row : Row sb blk ib n lo sz cap h buf I S W d
  own : W.ownsRow B0 3 1 v xs.length (ints (xs.map (fun (x : Nat) => (x : Int))))
  chg : Chg (fun g => B0 ≤ g) W0 W
  base : B0 ≤ W.heap.size

theorem Row.drewN (r : Row sb blk ib n lo sz cap h buf I S W d) (m : Nat) : Row sb blk ib n lo sz cap h buf I S (W.drewN m) d := ⟨r.size, r.st.drewN m, r.inv.drewN m, r.sa.drewN m, r.rng⟩
theorem Row.chg {W' : World} {T : Nat → Prop} (r : Row sb blk ib n lo sz cap h buf I S W d) (hc : Chg T W W') (h1 : ¬ T sb) (h2 : ¬ T ib) (h3 : ¬ T blk) : Row sb blk ib n lo sz cap h buf I S W' d :=
  ⟨r.size, r.st.chg hc h1, r.inv.chg hc h2, r.sa.chg hc h3, r.rng⟩
theorem own_drewN {base : Nat} {e : TypeId} {size k : Nat} {v : Value} {xs : List Value} (h : W.ownsRow base e size v k xs) (m : Nat) : (W.drewN m).ownsRow base e size v k xs := h

theorem B1.push {W0 wr w1 : World} {B0 : Nat} {v : Value} {xs : List Nat} (hx : B1 sb blk ib n lo sz cap h buf I S d W0 B0 v xs wr) (hB : sb < B0 ∧ blk < B0 ∧ ib < B0) (m x : Nat) (o : Obj) (g1 c1 k1 : Nat)
    (hO : w1.ownsRow B0 3 1 (.slice (some ⟨g1, 0, none⟩) (k1 + 1) c1) (k1 + 1) (ints (xs.map (fun (x : Nat) => (x : Int))) ++ [.int .i64 (x : Int)])) (hG : ((wr.drewN m).alloc o).grownBy w1 v.ownBlock) (hk : k1 = xs.length) :
    B1 sb blk ib n lo sz cap h buf I S d W0 B0 (.slice (some ⟨g1, 0, none⟩) (k1 + 1) c1) (xs ++ [x]) w1 := by
  subst hk
  have hc : Chg (fun g => B0 ≤ g) wr w1 := by
    have h1 : Chg (fun g => B0 ≤ g) wr ((wr.drewN m).alloc o) := ((Chg.refl _ wr).drewN m).alloc o
    exact h1.trans (Chg.ofGrown (S := fun g => B0 ≤ g) hG (fun g hg _ => (hx.own.lt g hg).1)) (fun _ _ h => h)
  refine ⟨hx.row.chg hc (by omega) (by omega) (by omega), ?_, hx.chg.trans hc (fun _ _ h => h), Nat.le_trans hx.base hc.size⟩
  simpa using hO

/-- In the second loop. -/
structure B2 (sb blk ib n lo sz cap h : Nat) (W0 : World) (B0 : Nat) (v : Value) (bs : List Nat) (I S : Nat → Int) (W : World) : Prop where
  um : UM sb blk ib n lo sz cap h v I S W
  own : W.ownsRow B0 3 1 v bs.length (ints (bs.map (fun (x : Nat) => (x : Int))))
  chg : Chg (fun g => g = sb ∨ g = ib ∨ g = blk ∨ B0 ≤ g) W0 W

theorem own_set {base k : Nat} {e : TypeId} {size : Nat} {v : Value} {xs : List Value} (h : W.ownsRow base e size v k xs) {g : Nat} (hg : g < base) (q : Nat) (u : Value) : (W.setCell ⟨g, q, none⟩ u).ownsRow base e size v k xs :=
  own_below h ((Chg.refl (fun i => i = g) W).setCell (p := ⟨g, q, none⟩) (fun _ => rfl) u) (fun i hi e => by have := (h.lt i hi).1; omega)

theorem B2.setI {W0 : World} {B0 : Nat} {v : Value} {bs : List Nat} (b : B2 sb blk ib n lo sz cap h W0 B0 v bs I S W) (h1 : sb ≠ ib) (h2 : ib ≠ blk) (hB : ib < B0) (p : Nat) (x : Int) : B2 sb blk ib n lo sz cap h W0 B0 v bs (upd I p x) S (W.setCell ⟨ib, p, none⟩ (.int .i64 x)) :=
  ⟨b.um.setI h1 h2 p x, own_set b.own hB _ _, b.chg.setCell (p := ⟨ib, p, none⟩) (fun _ => Or.inr (Or.inl rfl)) _⟩
theorem B2.setS {W0 : World} {B0 : Nat} {v : Value} {bs : List Nat} (b : B2 sb blk ib n lo sz cap h W0 B0 v bs I S W) (h1 : sb ≠ blk) (h2 : ib ≠ blk) (hB : blk < B0) (p : Nat) (x : Int) : B2 sb blk ib n lo sz cap h W0 B0 v bs I (upd S p x) (W.setCell ⟨blk, p, none⟩ (.int .i64 x)) :=
  ⟨b.um.setS h1 h2 p x, own_set b.own hB _ _, b.chg.setCell (p := ⟨blk, p, none⟩) (fun _ => Or.inr (Or.inr (Or.inl rfl))) _⟩
theorem B2.drew {W0 : World} {B0 : Nat} {v : Value} {bs : List Nat} (b : B2 sb blk ib n lo sz cap h W0 B0 v bs I S W) : B2 sb blk ib n lo sz cap h W0 B0 v bs I S W.drew :=
  ⟨b.um.drew, b.own, b.chg.drew⟩

set_option linter.unusedSimpArgs false in
set_option linter.unusedVariables false in
set_option maxHeartbeats 2000000 in
set_option maxRecDepth 100000 in
theorem updateGroups_any (hR : Row sb blk ib n lo sz cap h buf I S W d) (hn : lo + sz ≤ n) (hb : n ≤ 1099511627776) (h1 : sb ≠ blk) (h2 : ib ≠ blk) (h3 : sb ≠ ib) (B0 : Nat) (hB : sb < B0 ∧ blk < B0 ∧ ib < B0 ∧ B0 ≤ W.heap.size)
    (hbuf : ∃ m xs, W.ownsRow B0 3 1 buf m xs) (hI : ∀ p, p < n → 0 ≤ I p ∧ I p ≤ 1099511627776) (hs : ∀ i j, i ≤ j → j < sz → I (d[i]! + h) ≤ I (d[j]! + h)) (hd : ∀ i j, i < sz → j < sz → d[i]! = d[j]! → i = j) (hsz : 1 ≤ sz) :
    Calls Try.prog 21 #[rcv sb, .int .i64 lo] W fun e w' => e = .returned (.tuple #[]) ∧ ∃ buf' I' S', Chg (fun g => g = sb ∨ g = ib ∨ g = blk ∨ B0 ≤ g) W w' ∧ (∃ m xs, w'.ownsRow B0 3 1 buf' m xs) ∧
      UM sb blk ib n lo sz cap h buf' I' S' w' ∧ Split (fun i => I (d[i]! + h)) lo sz d I (seg S lo d) sz I' S' := by
  obtain ⟨hB1, hB2, hB3, hB4⟩ := hB
  obtain ⟨i0, hi3, hz0, hz1, hz2⟩ := info_parts info3
  obtain ⟨K, hK⟩ : ∃ K : Nat → Int, K = fun i => I (d[i]! + h) := ⟨_, rfl⟩
  have hKv : ∀ i, K i = I (d[i]! + h) := fun i => by rw [hK]
  rw [← hK]
  have hKb : Hid (∀ i, i < sz → 0 ≤ K i ∧ K i ≤ 1099511627776) := fun i hi => by rw [hKv]; exact hI _ (hR.rng i hi)
  have HS : Hid (∀ i j, i ≤ j → j < sz → K i ≤ K j) := fun i j h1 h2 => by rw [hKv, hKv]; exact hs i j h1 h2
  have HD := hide hd
  have HR := hide hR
  have HKV := hide hKv
  have HI := hide hI
  clear hR hs hd hK hKv hI
  have c0 := HR.out.st.cell 3
  simp at c0
  go_enter Try.func21, Try.ntmps21
  go_upto_region 0 with fail
  go_cut [4] from 12 (fun v4 wx => W = wx ∧ Hid (W.ownsRow B0 3 1 v4 0 []))
  case first =>
    obtain ⟨m, xs, hown⟩ := hbuf
    rcases hown with ⟨hl, ⟨rfl, rfl⟩ | ⟨g, cp, cur, rfl, hg1, hg2, hg3, hg4, hg5, hg6⟩⟩
    · go_wp2
      go_meet
      case rel => exact ⟨rfl, World.ownsRow_nil W B0 3 1⟩
    · have hx : Hid (W.ownsRow B0 3 1 (.slice (some ⟨g, 0, none⟩) 0 cp) 0 []) := (⟨by simp, Or.inr ⟨g, cp, cur, rfl, hg1, hg2, by omega, hg4, hg5, by simp⟩⟩ : W.ownsRow B0 3 1 (.slice (some ⟨g, 0, none⟩) 0 cp) 0 [])
      unfold maxLen at hg4
      clear hg1 hg2 hg5 hg6
      go_wp2
      go_meet
      case rel => exact ⟨rfl, hx⟩
  case rest =>
    obtain ⟨rfl, HO⟩ := hcut
    have HB1 : Hid (B1 sb blk ib n lo sz cap h buf I S d W B0 u4 (bl K 1) W) := (⟨HR.out, HO.out, Chg.refl _ _, hB4⟩ : B1 sb blk ib n lo sz cap h buf I S d W B0 u4 (bl K 1) W)
    have hgs : Hid (Gs K sz 0 (bl K sz ++ [sz])) := gs_all K hsz
    clear HO c0 hbuf
    have c0 := HR.out.st.cell 0
    have c1 := HR.out.st.cell 1
    have c2 := HR.out.st.cell 2
    simp at c0 c1 c2
    have s0 := HR.out.sa.icell (i := lo) (by omega)
    rw [show seg S lo d lo = (d[0]! : Int) from seg_at S lo d (i := 0) (by rw [HR.out.size]; omega)] at s0
    have r0 := HR.out.rng 0 (by omega)
    have i1 := HR.out.inv.icell r0
    rw [← HKV.out] at i1
    generalize hx0 : d[0]! = x0 at s0 r0 i1
    clear hx0
    go_wp2
    go_quiet (fail)
    go_wp2
    go_loopw [4, 5, 6] (fun s4 s5 s6 wr => ∃ i : Nat, s5 = .int .i64 (K (i - 1)) ∧ s6 = .int .i64 i ∧ 1 ≤ i ∧ i ≤ sz ∧ Hid (B1 sb blk ib n lo sz cap h buf I S d W B0 s4 (bl K i) wr)) (fun _ _ s6 _ => sz - (intOf s6).toNat)
    case atStart => exact ⟨1, rfl, rfl, Nat.le_refl _, hsz, (⟨HB1.out.row.drewN nq, own_drewN HB1.out.own nq, HB1.out.chg.drewN nq, HB1.out.base⟩ : B1 sb blk ib n lo sz cap h buf I S d W B0 u4 (bl K 1) (W.drewN nq))⟩
    case round =>
      obtain ⟨i, rfl, rfl, hi1, hi2, HX⟩ := hrel
      clear HB1 c0 c1 c2 s0 r0 i1
      have c0 := HX.out.row.st.cell 0
      have c1 := HX.out.row.st.cell 1
      have c2 := HX.out.row.st.cell 2
      simp at c0 c1 c2
      by_cases hlt : i < sz
      · have s0 := HX.out.row.sa.icell (i := lo + i) (by omega)
        rw [seg_at S lo d (by rw [HX.out.row.size]; omega)] at s0
        have r0 := HX.out.row.rng i hlt
        have i1 := HX.out.row.inv.icell r0
        rw [← HKV.out] at i1
        generalize hx0 : d[i]! = x0 at s0 r0 i1
        clear hx0
        have hle := HS.out (i - 1) i (by omega) hlt
        by_cases hk : K (i - 1) < K i
        · go_wp2
          go_quiet (fail)
          have hlen := bl_len K i
          go_wp2_with
            (at_builtin
             go_must (refine wpList_append1 rfl _ _ 23 rfl B0 3 i0 (.int .i64 0) 8 Try.underlying23 hi3 hz0 hz1 hz2 rfl u4 (bl K i).length _ rfl (World.ownsRow.alloc (own_drewN HX.out.own nq) _) _ 1 (.int .i64 (i : Int)) rfl ((Blk.new_ (n := wr.heap.size) (wr.drewN nq) 3 #[.int .i64 (i : Int)] rfl).cell 0) rfl (by unfold maxLen; omega) (by omega) (by have h9 := HX.out.base; simp; omega) ?_)
             intro g1 cp w1 hO _ hG hat hg1
             have hcp := own_cap hO
             unfold maxLen at hcp
             obtain ⟨hcp1, hcp2⟩ := hcp
             have HF : Hid (B1 sb blk ib n lo sz cap h buf I S d W B0 (.slice (some ⟨g1, 0, none⟩) ((bl K i).length + 1) cp) (bl K (i + 1)) w1) := (by
               have h8 := HX.out.push ⟨hB1, hB2, hB3⟩ nq i _ g1 cp _ hO hG rfl
               rw [bl_succ K hi1, if_pos hk]
               exact h8)
             clear hO hG hat)
          exact ⟨⟨i + 1, by simp, by go_num, by omega, by omega, HF⟩, by simp [intOf]; omega⟩
        · obtain ⟨y, hy⟩ : ∃ y, y = K i := ⟨_, rfl⟩
          have hky : K (i - 1) = y := by omega
          have HF : Hid (B1 sb blk ib n lo sz cap h buf I S d W B0 u4 (bl K (i + 1)) (wr)) := (by
            rw [bl_succ K hi1, if_neg hk, List.append_nil]
            exact HX.out)
          go_wp2
          go_quiet (fail)
          go_wp2
          exact ⟨⟨i + 1, by first | simp; done | (simp; omega), by go_num, by omega, by omega, (⟨HF.out.row.drewN nq, own_drewN HF.out.own nq, HF.out.chg.drewN nq, HF.out.base⟩ : B1 sb blk ib n lo sz cap h buf I S d W B0 u4 (bl K (i + 1)) (wr.drewN nq))⟩, by simp [intOf]; omega⟩
      · obtain rfl : sz = i := by omega
        clear HR
        have hlen := bl_len K sz
        go_wp2_with
          (at_builtin
           go_must (refine wpList_append1 rfl _ _ 23 rfl B0 3 i0 (.int .i64 0) 8 Try.underlying23 hi3 hz0 hz1 hz2 rfl u4 (bl K sz).length _ rfl (World.ownsRow.alloc (own_drewN HX.out.own 0) _) _ 1 (.int .i64 (sz : Int)) rfl ((Blk.new_ (n := wr.heap.size) wr 3 #[.int .i64 (sz : Int)] rfl).cell 0) rfl (by unfold maxLen; omega) (by omega) (by have h9 := HX.out.base; simp; omega) ?_)
           intro g1 cp w1 hO _ hG hat hg1
           have hcp := own_cap hO
           unfold maxLen at hcp
           obtain ⟨hcp1, hcp2⟩ := hcp
           have HF : Hid (B1 sb blk ib n lo sz cap h buf I S d W B0 (.slice (some ⟨g1, 0, none⟩) ((bl K sz).length + 1) cp) (bl K sz ++ [sz]) w1) := (by
             exact HX.out.push ⟨hB1, hB2, hB3⟩ 0 sz _ g1 cp _ hO hG rfl)
           have e3 := HF.out.row.st.cell 3
           have f3 := HF.out.row.st.frozen 3
           simp at e3
           clear hO hG hat)
        have HB2 : Hid (B2 sb blk ib n lo sz cap h W B0 (.slice (some ⟨g1, 0, none⟩) ((bl K sz).length + 1) cp) (bl K sz ++ [sz]) I (seg S lo d) (w1.setCell ⟨sb, 3, none⟩ (.slice (some ⟨g1, 0, none⟩) ((bl K sz).length + 1) cp))) := by
          refine (⟨HF.out.row.um.setB h1 h3 _, ?_, ?_⟩ : B2 sb blk ib n lo sz cap h W B0 (.slice (some ⟨g1, 0, none⟩) ((bl K sz).length + 1) cp) (bl K sz ++ [sz]) I (seg S lo d) (w1.setCell ⟨sb, 3, none⟩ (.slice (some ⟨g1, 0, none⟩) ((bl K sz).length + 1) cp)))
          · simpa using own_set HF.out.own hB1 3 _
          · exact (HF.out.chg.mono (T := fun g => g = sb ∨ g = ib ∨ g = blk ∨ B0 ≤ g) (fun i _ h => Or.inr (Or.inr (Or.inr h)))).setCell (p := ⟨sb, 3, none⟩) (fun _ => Or.inl rfl) _
        have hRS := hide HF.out.row.size
        have hRG := hide HF.out.row.rng
        clear HF HX e3 f3 c0 c1 c2
        obtain ⟨bs, hbs⟩ : ∃ bs, bs = (bl K sz ++ [sz]) := ⟨_, rfl⟩
        have hbl : bs.length = (bl K sz).length + 1 := by rw [hbs]; simp
        go_wp2
        go_loopw [8, 83] (fun s8 s83 wr => ∃ (t prev : Nat), s8 = .int .i64 prev ∧ s83 = .int .i64 t ∧ t ≤ (bl K sz).length + 1 ∧ prev ≤ sz ∧ Hid (∃ I' S', B2 sb blk ib n lo sz cap h W B0 (.slice (some ⟨g1, 0, none⟩) ((bl K sz).length + 1) cp) (bl K sz ++ [sz]) I' S' wr ∧ Split K lo sz d I (seg S lo d) prev I' S' ∧ Gs K sz prev ((bl K sz ++ [sz]).drop t) ∧ (prev = 0 ∨ prev = sz ∨ K (prev - 1) < K prev))) (fun _ s83 _ => (bl K sz).length + 1 - (intOf s83).toNat)
        case atStart => exact ⟨0, 0, rfl, rfl, by omega, by omega, (⟨I, seg S lo d, HB2.out, Split.start K lo sz d I _, hgs.out, Or.inl rfl⟩ : ∃ I' S', B2 sb blk ib n lo sz cap h W B0 (.slice (some ⟨g1, 0, none⟩) ((bl K sz).length + 1) cp) (bl K sz ++ [sz]) I' S' _ ∧ Split K lo sz d I (seg S lo d) 0 I' S' ∧ Gs K sz 0 ((bl K sz ++ [sz]).drop 0) ∧ (0 = 0 ∨ 0 = sz ∨ K (0 - 1) < K 0))⟩
        case round =>
          obtain ⟨t, prev, rfl, rfl, ht, hpv, HX⟩ := hrel
          obtain ⟨I', S', hb2, hsp, hgsp, hpk⟩ := HX.out
          have HX2 := hide hb2
          have HSP := hide hsp
          clear HB2 hgs HX hb2 hsp
          by_cases htl : t < (bl K sz).length + 1
          · obtain ⟨b, hbt⟩ : ∃ b, (bl K sz ++ [sz])[t]? = some b := ⟨_, List.getElem?_eq_getElem (by simp; omega)⟩
            have hdr : (bl K sz ++ [sz]).drop t = b :: (bl K sz ++ [sz]).drop (t + 1) := by
              rw [List.drop_eq_getElem_cons (by simp; omega)]
              congr 1
              rw [List.getElem?_eq_getElem (by simp; omega)] at hbt
              exact Option.some.inj hbt
            rw [hdr] at hgsp
            obtain ⟨hg1', hg2', hg3', hg4', hg5'⟩ := hgsp
            have HGS := hide hg5'
            have HG : Hid (Grp K sz prev b) := (⟨by rcases hpk with h9 | h9 | h9; exact Or.inl h9; exact absurd h9 (by omega); exact Or.inr h9, hg3', hg4'⟩ : Grp K sz prev b)
            have HNK := hide hg3'
            have e0 : wr.cell? ⟨g1, t, none⟩ = some (.int .i64 (b : Int)) := by
              have ho := HX2.out.own
              rw [show (bl K sz ++ [sz]).length = (bl K sz).length + 1 by simp] at ho
              rw [ho.cellAt t (by omega), List.getElem?_map, List.getElem?_map, hbt]
              rfl
            clear hdr hbt hg5' hg4' hpk
            go_wp2
            go_loopw [11] (fun s11 wx => ∃ i : Nat, s11 = .int .i64 i ∧ prev ≤ i ∧ i ≤ b ∧ Hid (∃ I2, B2 sb blk ib n lo sz cap h W B0 (.slice (some ⟨g1, 0, none⟩) ((bl K sz).length + 1) cp) (bl K sz ++ [sz]) I2 S' wx ∧ Mid lo b d I' prev i I2)) (fun s11 _ => b - (intOf s11).toNat)
            case atStart => exact ⟨prev, rfl, Nat.le_refl _, by omega, (⟨I', HX2.out, Mid.start lo b d I' prev⟩ : ∃ I2, B2 sb blk ib n lo sz cap h W B0 (.slice (some ⟨g1, 0, none⟩) ((bl K sz).length + 1) cp) (bl K sz ++ [sz]) I2 S' _ ∧ Mid lo b d I' prev prev I2)⟩
            case round =>
              obtain ⟨i, rfl, hi1, hi2, HY⟩ := hrel
              obtain ⟨I2, hb2, hm⟩ := HY.out
              have HB := hide hb2
              have HM := hide hm
              clear HY hb2 hm HX2 e0
              have c0 := HB.out.um.st.cell 0
              have c1 := HB.out.um.st.cell 1
              simp at c0 c1
              by_cases hib : i < b
              · have s0 := HB.out.um.sa.icell (i := lo + i) (by omega)
                rw [(HSP.out.todo i (by omega) (by omega)).2, seg_at S lo d (by rw [hRS.out]; omega)] at s0
                have hrg := hRG.out i (by omega)
                have i1 := HB.out.um.inv.icell (i := d[i]!) (by omega)
                have f1 := HB.out.um.inv.frozen d[i]!
                have HF : Hid (∃ I2, B2 sb blk ib n lo sz cap h W B0 (.slice (some ⟨g1, 0, none⟩) ((bl K sz).length + 1) cp) (bl K sz ++ [sz]) I2 S' ((wr.setCell ⟨ib, d[i]!, none⟩ (.int .i64 (((lo + b : Nat) : Int) - 1))).drew) ∧ Mid lo b d I' prev (i + 1) I2) :=
                  (⟨_, (HB.out.setI h3 h2 hB3 d[i]! _).drew, HM.out.next hi1⟩ : ∃ I2, B2 sb blk ib n lo sz cap h W B0 (.slice (some ⟨g1, 0, none⟩) ((bl K sz).length + 1) cp) (bl K sz ++ [sz]) I2 S' ((wr.setCell ⟨ib, d[i]!, none⟩ (.int .i64 (((lo + b : Nat) : Int) - 1))).drew) ∧ Mid lo b d I' prev (i + 1) I2)
                generalize d[i]! = x0 at s0 hrg i1 f1 HF
                rw [show (((lo + b : Nat) : Int) - 1) = ((lo : Int) + (b : Int) - 1) by omega] at HF
                go_wp2
                go_region
                go_wp2
                exact ⟨⟨i + 1, by go_num, by omega, by omega, HF⟩, by simp [intOf]; omega⟩
              · obtain rfl : b = i := by omega
                have HNX := hide (HSP.out.next HD.out hg1' hg2' HG.out HM.out)
                by_cases hone : b = prev + 1
                · have f1 := HB.out.um.sa.frozen (lo + prev)
                  have s1 := HB.out.um.sa.icell (i := lo + prev) (by omega)
                  rw [if_pos hone] at HNX
                  have HF : Hid (∃ I' S', B2 sb blk ib n lo sz cap h W B0 (.slice (some ⟨g1, 0, none⟩) ((bl K sz).length + 1) cp) (bl K sz ++ [sz]) I' S' (wr.setCell ⟨blk, lo + prev, none⟩ (.int .i64 (-1))) ∧ Split K lo sz d I (seg S lo d) b I' S' ∧ Gs K sz b ((bl K sz ++ [sz]).drop (t + 1)) ∧ (b = 0 ∨ b = sz ∨ K (b - 1) < K b)) :=
                    (⟨_, _, HB.out.setS h1 h2 hB2 (lo + prev) (-1), HNX.out, HGS.out, Or.inr HNK.out⟩ : ∃ I' S', B2 sb blk ib n lo sz cap h W B0 (.slice (some ⟨g1, 0, none⟩) ((bl K sz).length + 1) cp) (bl K sz ++ [sz]) I' S' (wr.setCell ⟨blk, lo + prev, none⟩ (.int .i64 (-1))) ∧ Split K lo sz d I (seg S lo d) b I' S' ∧ Gs K sz b ((bl K sz ++ [sz]).drop (t + 1)) ∧ (b = 0 ∨ b = sz ∨ K (b - 1) < K b))
                  have h19 : ((b : Int) - (prev : Int) == 1) = true := by simp; omega
                  go_wp2
                  exact ⟨⟨t + 1, b, rfl, by go_num, by omega, by omega, HF⟩, by simp [intOf]; omega⟩
                · rw [if_neg hone] at HNX
                  have HF : Hid (∃ I' S', B2 sb blk ib n lo sz cap h W B0 (.slice (some ⟨g1, 0, none⟩) ((bl K sz).length + 1) cp) (bl K sz ++ [sz]) I' S' wr ∧ Split K lo sz d I (seg S lo d) b I' S' ∧ Gs K sz b ((bl K sz ++ [sz]).drop (t + 1)) ∧ (b = 0 ∨ b = sz ∨ K (b - 1) < K b)) :=
                    (⟨_, _, HB.out, HNX.out, HGS.out, Or.inr HNK.out⟩ : ∃ I' S', B2 sb blk ib n lo sz cap h W B0 (.slice (some ⟨g1, 0, none⟩) ((bl K sz).length + 1) cp) (bl K sz ++ [sz]) I' S' wr ∧ Split K lo sz d I (seg S lo d) b I' S' ∧ Gs K sz b ((bl K sz ++ [sz]).drop (t + 1)) ∧ (b = 0 ∨ b = sz ∨ K (b - 1) < K b))
                  have h19 : ((b : Int) - (prev : Int) == 1) = false := by simp; omega
                  go_wp2
                  exact ⟨⟨t + 1, b, rfl, by go_num, by omega, by omega, HF⟩, by simp [intOf]; omega⟩
          · have hdr : (bl K sz ++ [sz]).drop t = [] := List.drop_eq_nil_of_le (by simp; omega)
            rw [hdr] at hgsp
            obtain rfl : prev = sz := hgsp
            go_wp2
            go_end0
            exact ⟨rfl, HX2.out.chg, _, ⟨_, _, HX2.out.own⟩, I', S', HX2.out.um, HSP.out⟩
end
end Go.Proofs.Ytaihafoopoaahaa
