/- The walk of impl.Trie. Under sizes alone. -/
import Derived.Test.YtjekaagjgamfkaaDoorKy
import Derived.Test.YtjekaagjgamfkaaDoorLs
import Derived.Test.YtjekaagjgamfkaaDoorPv
import Derived.Test.YtjekaagjgamfkaaDoorCm
import Derived.Test.YtjekaagjgamfkaaDoorVa
import Derived.Test.YtjekaagjgamfkaaDoorHy
import Derived.Test.YtjekaagjgamfkaaDoorEl
import Derived.Deep.RegionLaw
import Derived.Deep.DeepCutAuto
import Derived.Test.YtjekaagjgamfkaaDoorPw
import Derived.Deep.Cut
import Derived.Deep.CutRange
namespace Go.Proofs.YtjekaagjgamfkaaDoor
open Go.RowKit T
attribute [local go_sem] S_size S_toList E_toList

/-- The visitor is made. -/
theorem mkvisit_any (fb off mb : Nat) (w : World) : Calls Tryd.prog 16 #[.pointer (some ⟨fb, off, none⟩), .pointer (some ⟨mb, 0, none⟩)] w fun e w' =>
    e = .returned (.func (.func 17) #[] #[.pointer (some ⟨w.heap.size, 0, none⟩), .pointer (some ⟨mb, 0, none⟩)]) ∧ w.alloc (.cells #[.pointer (some ⟨fb, off, none⟩)] 46) = w' := by
  have hmf : ∀ (fn : Fn) (first cap : Array Value) (w : World), (Instr.makeFunc fn first cap).run Tryd.prog w = .ok (.func fn first cap) w := fun _ _ _ _ => rfl
  go_enter Tryd.func16, Tryd.ntmps16
  go_wp2
  go_ret
  exact ⟨rfl, rfl⟩

/-- The trie while keys go in. -/
structure TrSt (w wr : World) (B root M : Nat) (ks : List T.Bs) (s : St) (R : Nat → Value) : Prop where
  mem : Mem wr B s R
  inv : Inv s root
  bnd : Bnd s M
  kyd : Keyed s ks
  bel : Below B w wr

theorem TrSt.start (w : World) (B root M : Nat) (hB : B ≤ root) (hb : Blk w root 44 #[.slice none 0 0, .pointer none]) : TrSt w w B root M [] ⟨T.upd (fun _ => none) root ⟨[], none, []⟩, fun _ => none⟩ (fun _ => .slice none 0 0) := by
  have hD : ∀ (b : Nat) (d : Nd), T.upd (fun _ => (none : Option Nd)) root (⟨[], none, []⟩ : Nd) b = some d → b = root ∧ d = ⟨[], none, []⟩ := fun b d h => by
    rcases upd_some h with h | ⟨_, h⟩
    · exact h
    · cases h
  refine ⟨⟨fun b d h => ?_, fun b d h => ?_, fun b d h => ?_, fun k x h => by (cases h), fun k x h => by (cases h), fun b d b' d' g h1 h2 _ _ => ?_⟩, ⟨⟨(⟨[], none, []⟩ : Nd), upd_same (fun _ => (none : Option Nd)) root _, rfl⟩, fun b d e h he => ?_, fun b d h => ?_, fun b d e b' h he => ?_, fun b d e k h he => ?_, fun b d k h hk => ?_, fun b d h x p hx _ => ?_, fun _ _ _ _ _ h => by (cases h)⟩, ⟨fun b d h => ?_, fun _ _ _ h => by (cases h)⟩, ⟨fun _ _ _ h => by (cases h), fun _ h => by (cases h)⟩, Below.refl _ _⟩
  · obtain ⟨rfl, rfl⟩ := hD b d h; exact hb
  · obtain ⟨rfl, rfl⟩ := hD b d h; exact World.ownsRow_nil _ _ _ _
  · obtain ⟨rfl, rfl⟩ := hD b d h; exact hB
  · exact (hD b d h1).1.trans (hD b' d' h2).1.symm
  · obtain ⟨rfl, rfl⟩ := hD b d h; cases he
  · obtain ⟨rfl, rfl⟩ := hD b d h; exact List.Pairwise.nil
  · obtain ⟨rfl, rfl⟩ := hD b d h; cases he
  · obtain ⟨rfl, rfl⟩ := hD b d h; cases he
  · obtain ⟨rfl, rfl⟩ := hD b d h; cases hk
  · obtain ⟨rfl, rfl⟩ := hD b d h
    cases x with
    | node b' =>
      obtain ⟨d', h1, _⟩ := hx
      exact Or.inl (by rw [(hD b' d' h1).1])
    | leaf k => obtain ⟨m, h1⟩ := hx; cases h1
  · obtain ⟨rfl, rfl⟩ := hD b d h; exact ⟨Nat.zero_le _, fun _ h => by (cases h)⟩

theorem set6 {w : World} {g t : Nat} {a0 a1 a2 a3 a4 a5 : Value} (h : Blk w g t #[a0, a1, a2, a3, a4, a5]) (v0 v1 v2 v3 v4 v5 : Value) :
    Blk ((((((w.setCell ⟨g, 0, none⟩ v0).setCell ⟨g, 1, none⟩ v1).setCell ⟨g, 2, none⟩ v2).setCell ⟨g, 3, none⟩ v3).setCell ⟨g, 4, none⟩ v4).setCell ⟨g, 5, none⟩ v5) g t #[v0, v1, v2, v3, v4, v5] ∧
      Chg (fun i => i = g) w ((((((w.setCell ⟨g, 0, none⟩ v0).setCell ⟨g, 1, none⟩ v1).setCell ⟨g, 2, none⟩ v2).setCell ⟨g, 3, none⟩ v3).setCell ⟨g, 4, none⟩ v4).setCell ⟨g, 5, none⟩ v5) :=
  ⟨(((((h.set_ 0 v0).set_ 1 v1).set_ 2 v2).set_ 3 v3).set_ 4 v4).set_ 5 v5, ((((((Chg.refl (fun i => i = g) w).setCell (p := ⟨g, 0, none⟩) (fun _ => rfl) v0).setCell (p := ⟨g, 1, none⟩) (fun _ => rfl) v1).setCell (p := ⟨g, 2, none⟩) (fun _ => rfl) v2).setCell (p := ⟨g, 3, none⟩) (fun _ => rfl) v3).setCell (p := ⟨g, 4, none⟩) (fun _ => rfl) v4).setCell (p := ⟨g, 5, none⟩) (fun _ => rfl) v5⟩

/-- What impl.Trie hands back. -/
def FoundOut (ks : List T.Bs) (str : T.Bs) (most : Int) (w : World) (e : Ending) (w' : World) : Prop :=
  ∃ (s : St) (root M : Nat) (vp vs vv ve : Value), Inv s root ∧ Bnd s M ∧ Keyed s ks ∧
    e = .returned (.agg #[vp, vs, .bool (!(pfx s (str.length + 1) root str).isEmpty), .bool (!(pfx s (str.length + 1) root str.reverse).isEmpty), vv, ve]) ∧
    (∃ L, L = (vist most [] ((pfx s (str.length + 1) root str).map (val s))).1 ∧ w'.ownsRow w.heap.size 3 1 vp L.length (ints L)) ∧
    (∃ L, L = (vist most [] ((pfx s (str.length + 1) root str.reverse).map (val s))).1 ∧ w'.ownsRow w.heap.size 3 1 vs L.length (ints L)) ∧
    (∃ L, L = (vist most [] ((vals s (M + 1) root).map (val s))).1 ∧ w'.ownsRow w.heap.size 3 1 vv L.length (ints L)) ∧
    (w'.ownsRow w.heap.size 36 2 ve (vals s (M + 1) root).length ((vals s (M + 1) root).flatMap (fun k => [.string (S (key s k)), .int .i64 (val s k)]))) ∧
    Below w.heap.size w w'

set_option linter.unusedSimpArgs false in
set_option linter.unusedVariables false in
set_option maxHeartbeats 4000000 in
set_option maxRecDepth 100000 in
theorem trie_any (M : Nat) (A : Option Addr) (n c : Nat) (ks : List T.Bs) (str : T.Bs) (most : Int) (cp : Bool) (er : Value) (w : World) (hr : Reads w (fun _ => True) 1 A n (strs ks)) (hn : n = ks.length) (hk : ∀ k ∈ ks, GoodP k M) (hM : M ≤ 1099511627776) (hnl : n ≤ 2147483647) (hstr : str.length ≤ 1000000)
    (her : ∃ et ep, er = .iface et ep) (hec : w.cell? ⟨0, 0, none⟩ = some er) :
    Calls Tryd.prog 6 #[.slice A n c, .string (S str), .int .i64 most, .bool cp] w (FoundOut ks str most w) := by
  have hmf : ∀ (fn : Fn) (first cap : Array Value) (w : World), (Instr.makeFunc fn first cap).run Tryd.prog w = .ok (.func fn first cap) w := fun _ _ _ _ => rfl
  have HR := hide hr
  have HN := hide hn
  have HK := hide hk
  have HER := hide her
  have HEC := hide hec
  clear hr hn hk her hec
  go_enter Tryd.func6, Tryd.ntmps6
  go_wp2
  have hmb : Blk (((w.alloc (.cells #[.int .i64 most] 3)).alloc (.cells #[.slice none 0 0, .slice none 0 0, .bool false, .bool false, .slice none 0 0, .slice none 0 0] 27)).alloc (.cells #[.slice none 0 0, .pointer none] 44)) w.heap.size 3 #[.int .i64 most] := ((Blk.new _ _ _).alloc _).alloc _
  have hrb : Blk (((w.alloc (.cells #[.int .i64 most] 3)).alloc (.cells #[.slice none 0 0, .slice none 0 0, .bool false, .bool false, .slice none 0 0, .slice none 0 0] 27)).alloc (.cells #[.slice none 0 0, .pointer none] 44)) (w.heap.size + 1) 27 #[.slice none 0 0, .slice none 0 0, .bool false, .bool false, .slice none 0 0, .slice none 0 0] := (Blk.new_ _ _ _ (by simp)).alloc _
  have htb : Blk (((w.alloc (.cells #[.int .i64 most] 3)).alloc (.cells #[.slice none 0 0, .slice none 0 0, .bool false, .bool false, .slice none 0 0, .slice none 0 0] 27)).alloc (.cells #[.slice none 0 0, .pointer none] 44)) (w.heap.size + 1 + 1) 44 #[.slice none 0 0, .pointer none] := Blk.new_ _ _ _ (by simp)
  have hbw : Below w.heap.size w (((w.alloc (.cells #[.int .i64 most] 3)).alloc (.cells #[.slice none 0 0, .slice none 0 0, .bool false, .bool false, .slice none 0 0, .slice none 0 0] 27)).alloc (.cells #[.slice none 0 0, .pointer none] 44)) := (((Below.refl _ _).alloc (Nat.le_refl _) _).alloc (by simp) _).alloc (by simp; omega) _
  generalize (((w.alloc (.cells #[.int .i64 most] 3)).alloc (.cells #[.slice none 0 0, .slice none 0 0, .bool false, .bool false, .slice none 0 0, .slice none 0 0] 27)).alloc (.cells #[.slice none 0 0, .pointer none] 44)) = W3 at *
  have hst := TrSt.start W3 (w.heap.size + 1 + 1) (w.heap.size + 1 + 1) M (Nat.le_refl _) htb
  have HMB := hide hmb
  have HRB := hide hrb
  have HBW := hide hbw
  have HST := hide hst
  have hs3 := htb.lt
  clear hmb hrb htb hbw hst
  go_loopw [19] (fun s19 wr => ∃ i : Nat, s19 = .int .i64 i ∧ i ≤ n ∧ w.heap.size + 1 + 1 ≤ wr.heap.size ∧ Hid (∃ s R, TrSt W3 wr (w.heap.size + 1 + 1) (w.heap.size + 1 + 1) M (ks.take i) s R)) (fun s19 _ => n - (intOf s19).toNat)
  case atStart => exact ⟨0, rfl, Nat.zero_le _, by omega, (⟨_, _, HST.out⟩ : ∃ s R, TrSt W3 W3 (w.heap.size + 1 + 1) (w.heap.size + 1 + 1) M (ks.take 0) s R)⟩
  case round =>
    obtain ⟨i, rfl, hi, hBr, HI⟩ := hrel
    by_cases hlt : i < n
    · obtain ⟨s, R, hs⟩ := HI.out
      obtain ⟨K, hK⟩ : ∃ K, ks[i]? = some K := ⟨_, List.getElem?_eq_getElem (by have := HN.out; omega)⟩
      obtain ⟨ad, rfl, _, hadl, hcell⟩ := HR.out.2 (by omega)
      have hbr : Below w.heap.size w wr := HBW.out.trans (hs.bel.mono (by omega))
      have hkc : wr.cell? (ad.add i) = some (.string (S K)) := (hbr.cell (p := ad.add i) (by rw [block_of_add]; exact hadl)).trans (hcell i _ (strs_at hK))
      have hKG := HK.out K (List.mem_of_getElem? hK)
      have hins := insert_walk (w.heap.size + 1 + 1) (w.heap.size + 1 + 1) M s R K wr hs.mem hs.inv hs.bnd hKG hM hBr
      have HS := hide hs
      have HKK := hide hK
      have HINS := hide hins
      clear HI hs hK hcell hbr hKG hins
      go_wp2_with fail
      refine HINS.out.mono ?_
      clear HINS
      rintro _ w4 ⟨k, s4, R4, m, rfl, hm4, hv4, hbd4, hbel4, hk4, hor⟩
      have hkb := hm4.leaf k _ hk4
      have kc : w4.cell? ⟨k, 0, none⟩ = some (.int .i64 m) := by rw [hkb.cell]; rfl
      have kf := hkb.frozen 0
      have hB4 : w.heap.size + 1 + 1 ≤ w4.heap.size := Nat.le_trans hBr hbel4.size
      have htk : ks.take (i + 1) = ks.take i ++ [K] := take_succ HKK.out
      have hil : (ks.take i).length = i := by rw [List.length_take]; have := HN.out; omega
      by_cases hV : s4.V = s.V
      · obtain ⟨hky, hm0⟩ := HS.out.kyd.old hV hk4
        have hd : (m == 0) = false := by simpa using hm0
        have hfin : TrSt W3 w4 (w.heap.size + 1 + 1) (w.heap.size + 1 + 1) M (ks.take (i + 1)) s4 R4 := ⟨hm4, hv4, hbd4, by rw [htk]; exact hky, HS.out.bel.trans hbel4⟩
        have HFIN := hide hfin
        clear hm4 hv4 hbd4 hbel4 hk4 hor hkb htk hil hV hky hm0 hfin
        go_wp2
        go_roundw
        case measure => simp [intOf]; omega
        case rel => exact ⟨i + 1, by go_num, by omega, hB4, (⟨_, _, HFIN.out⟩ : ∃ s R, TrSt W3 w4 (w.heap.size + 1 + 1) (w.heap.size + 1 + 1) M (ks.take (i + 1)) s R)⟩
      · obtain ⟨hV2, hm0, hkn, hno⟩ := hor.resolve_left hV
        subst hm0
        have hd : ((0 : Int) == 0) = true := rfl
        have hw1 : IntKind.i64.wrap ((i : Int) + 1) = (i : Int) + 1 := by rw [IntKind.wrap_i64]; omega
        have hfin : TrSt W3 (w4.setCell ⟨k, 0, none⟩ (.int .i64 ((i : Int) + 1))) (w.heap.size + 1 + 1) (w.heap.size + 1 + 1) M (ks.take (i + 1)) ⟨s4.D, T.upd s4.V k (K, (i : Int) + 1)⟩ R4 := by
          refine ⟨hm4.setVal hk4 _, hv4.setVal hk4 _, hbd4.setVal hk4 _, ?_, (HS.out.bel.trans hbel4).setCell (p := ⟨k, 0, none⟩) (hm4.lb k _ hk4) _⟩
          rw [htk, hV2]
          exact HS.out.kyd.new hkn hno _ (by rw [hil])
        have HFIN := hide hfin
        clear hm4 hv4 hbd4 hbel4 hk4 hor hkb htk hil hV hV2 hkn hno hfin
        go_wp2
        go_roundw
        case measure => simp [intOf]; omega
        case rel => exact ⟨i + 1, by go_num, by omega, by simpa [World.setCell] using hB4, (⟨_, _, HFIN.out⟩ : ∃ s R, TrSt W3 _ (w.heap.size + 1 + 1) (w.heap.size + 1 + 1) M (ks.take (i + 1)) s R)⟩
    · have hin : i = ks.length := by have := HN.out; omega
      obtain ⟨s, R, hs⟩ := HI.out
      rw [hin, List.take_length] at hs
      have HS := hide hs
      clear HI hs hin
      go_upto_if 35 with fail
      go_cut [] from 10 to 37 (fun wx => ∃ s R, w.heap.size + 1 + 1 ≤ wx.heap.size ∧ Hid (Base wx (w.heap.size + 1 + 1) (w.heap.size + 1 + 1) M s R ∧ Keyed s ks ∧ Below (w.heap.size + 1 + 1) W3 wx))
      case first =>
        cases cp with
        | false =>
          go_wp2
          go_meet
          case rel => exact ⟨s, R, hBr, (⟨⟨HS.out.mem, HS.out.inv, HS.out.bnd, hM⟩, HS.out.kyd, HS.out.bel⟩ : Base wr (w.heap.size + 1 + 1) (w.heap.size + 1 + 1) M s R ∧ Keyed s ks ∧ Below (w.heap.size + 1 + 1) W3 wr)⟩
        | true =>
          obtain ⟨d0, hd0, hp0⟩ := HS.out.inv.root
          have hcm := compact_any (w.heap.size + 1 + 1) (w.heap.size + 1 + 1) M s HS.out.inv HS.out.bnd (M + 1) (w.heap.size + 1 + 1) d0 R wr hd0 (by omega) HS.out.mem hBr
          have HCM := hide hcm
          clear hd0 hp0 hcm
          go_wp2_with fail
          refine HCM.out.mono ?_
          clear HCM
          rintro _ w5 ⟨rfl, R5, hm5, hb5, _⟩
          have HM5 := hide hm5
          have HB5 := hide hb5
          have hs5 : w.heap.size + 1 + 1 ≤ w5.heap.size := Nat.le_trans hBr hb5.size
          clear hm5 hb5
          go_wp2
          go_meet
          case rel => exact ⟨s, R5, hs5, (⟨⟨HM5.out, HS.out.inv, HS.out.bnd, hM⟩, HS.out.kyd, HS.out.bel.trans HB5.out⟩ : Base w5 (w.heap.size + 1 + 1) (w.heap.size + 1 + 1) M s R5 ∧ Keyed s ks ∧ Below (w.heap.size + 1 + 1) W3 w5)⟩
      case rest =>
        obtain ⟨s1, R1, hB1, hcut2⟩ := hcut
        have HB := hide hcut2.1
        have HKY := hide hcut2.2.1
        have HBL := hide hcut2.2.2
        clear hcut2 HS
        have hmb1 := HMB.out.below HBL.out (by omega)
        have hrb1 := HRB.out.below HBL.out (by omega)
        have hec1 : wc.cell? ⟨0, 0, none⟩ = some er := ((HBW.out.trans (HBL.out.mono (by omega))).cell (p := ⟨0, 0, none⟩) (by
          have := HR.out
          exact block_lt_of_cell HEC.out)).trans HEC.out
        have hw0 : 0 < w.heap.size := block_lt_of_cell HEC.out
        obtain ⟨et, ep, rfl⟩ := HER.out
        obtain ⟨FB, hFB⟩ : ∃ FB : Nat, FB = wc.heap.size := ⟨_, rfl⟩
        have HMB1 := hide hmb1
        have HRB1 := hide hrb1
        have HEC1 := hide hec1
        clear hmb1 hrb1 hec1 hFB
        go_wp2_with fail
        refine (mkvisit_any wc.heap.size 0 w.heap.size _).mono ?_
        rintro _ w5 ⟨rfl, rfl⟩
        have hF : Blk (wc.alloc (.cells #[.slice none 0 0, .slice none 0 0, .bool false, .bool false, .slice none 0 0, .slice none 0 0] 27)) wc.heap.size 27 #[.slice none 0 0, .slice none 0 0, .bool false, .bool false, .slice none 0 0, .slice none 0 0] := Blk.new _ _ _
        have hbF : Below wc.heap.size wc (wc.alloc (.cells #[.slice none 0 0, .slice none 0 0, .bool false, .bool false, .slice none 0 0, .slice none 0 0] 27)) := (Below.refl _ _).alloc (Nat.le_refl _) _
        have hmF := HMB1.out.below hbF (by omega)
        have heF : (wc.alloc (.cells #[.slice none 0 0, .slice none 0 0, .bool false, .bool false, .slice none 0 0, .slice none 0 0] 27)).cell? ⟨0, 0, none⟩ = some (.iface et ep) := (hbF.cell (p := ⟨0, 0, none⟩) (by show 0 < _; omega)).trans HEC1.out
        have hsF : (wc.alloc (.cells #[.slice none 0 0, .slice none 0 0, .bool false, .bool false, .slice none 0 0, .slice none 0 0] 27)).heap.size = wc.heap.size + 1 := by simp
        generalize (wc.alloc (.cells #[.slice none 0 0, .slice none 0 0, .bool false, .bool false, .slice none 0 0, .slice none 0 0] 27)) = wF at *
        have hv5 : VisSt (wF.alloc (.cells #[.pointer (some ⟨wc.heap.size, 0, none⟩)] 46)) (wF.alloc (.cells #[.pointer (some ⟨wc.heap.size, 0, none⟩)] 46)) wc.heap.size wc.heap.size 0 wF.heap.size w.heap.size most (.iface et ep) #[.slice none 0 0, .slice none 0 0, .bool false, .bool false, .slice none 0 0, .slice none 0 0] [] (.slice none 0 0) :=
          ⟨hF.alloc _, World.ownsRow_nil _ _ _ _, Blk.new _ _ _, hmF.alloc _, (World.cell?_alloc_past (w := wF) _ 0 0 (by omega)).trans heF, by simp, Nat.le_refl _, by omega, by omega, by omega, Chg.refl _ _, fun g hg => by cases hg⟩
        have hpc := prefixes_any wc _ _ (w.heap.size + 1 + 1) (w.heap.size + 1 + 1) M wc.heap.size 0 wF.heap.size w.heap.size s1 R1 most (.iface et ep) (.iface et ep) (.iface et ep) _ [] _ str HB.out (hbF.alloc (by omega) (.cells #[.pointer (some ⟨wc.heap.size, 0, none⟩)] 46)) hv5 ⟨et, ep, rfl⟩ (by omega) (by have := pfx_len HB.out.inv str; simp; omega)
        have HPC := hide hpc
        have HEF := hide heF
        have HMF := hide hmF
        have hsF2 : wc.heap.size ≤ wF.heap.size := by omega
        clear hF hbF hmF heF hv5 hpc hsF
        go_wp2_with fail
        refine HPC.out.mono ?_
        clear HPC
        rintro _ w6 ⟨vp, u1, rfl, hv6, hb6⟩
        have hs6 := hb6.size
        have HV6 := hide hv6
        have HB6 := hide hb6
        clear hv6 hb6
        go_wp2_with fail
        refine (mkvisit_any wc.heap.size 1 w.heap.size _).mono ?_
        rintro _ w7 ⟨rfl, rfl⟩
        have hv7 : VisSt (w6.alloc (.cells #[.pointer (some ⟨wc.heap.size, 1, none⟩)] 46)) (w6.alloc (.cells #[.pointer (some ⟨wc.heap.size, 1, none⟩)] 46)) wc.heap.size wc.heap.size 1 w6.heap.size w.heap.size most (.iface et ep) #[vp, .slice none 0 0, .bool false, .bool false, .slice none 0 0, .slice none 0 0] [] (.slice none 0 0) :=
          ⟨HV6.out.fbk.alloc _, World.ownsRow_nil _ _ _ _, Blk.new _ _ _, HV6.out.mbk.alloc _, (World.cell?_alloc_past (w := w6) _ 0 0 (by omega)).trans HV6.out.erc, by simp, Nat.le_refl _, by omega, by omega, by omega, Chg.refl _ _, fun g hg => by cases hg⟩
        have hpc := suffixes_any wc _ _ (w.heap.size + 1 + 1) (w.heap.size + 1 + 1) M wc.heap.size 1 w6.heap.size w.heap.size s1 R1 most (.iface et ep) (.iface et ep) (.iface et ep) _ [] _ str HB.out (HB6.out.alloc (by omega) (.cells #[.pointer (some ⟨wc.heap.size, 1, none⟩)] 46)) hv7 ⟨et, ep, rfl⟩ (by omega) (by have := pfx_len HB.out.inv str.reverse; rw [List.length_reverse] at this; simp; omega)
        have HPC := hide hpc
        clear hv7 hpc
        go_wp2_with fail
        refine HPC.out.mono ?_
        clear HPC
        rintro _ w8 ⟨vs, u2, rfl, hv8, hb8⟩
        have hs8 := hb8.size
        have HP8 := hide (own_chg (HV6.out.own.alloc (.cells #[.pointer (some ⟨wc.heap.size, 1, none⟩)] 46)) hv8.chg (fun g hg e => own_nof HV6.out.own HV6.out.fbk (by rw [hg, e])))
        have HV8 := hide hv8
        have HB8 := hide hb8
        clear hv8 hb8
        go_wp2_with fail
        refine (mkvisit_any wc.heap.size 4 w.heap.size _).mono ?_
        rintro _ w9 ⟨rfl, rfl⟩
        have hv9 : VisSt (w8.alloc (.cells #[.pointer (some ⟨wc.heap.size, 4, none⟩)] 46)) (w8.alloc (.cells #[.pointer (some ⟨wc.heap.size, 4, none⟩)] 46)) wc.heap.size wc.heap.size 4 w8.heap.size w.heap.size most (.iface et ep) #[vp, vs, .bool false, .bool false, .slice none 0 0, .slice none 0 0] [] (.slice none 0 0) :=
          ⟨HV8.out.fbk.alloc _, World.ownsRow_nil _ _ _ _, Blk.new _ _ _, HV8.out.mbk.alloc _, (World.cell?_alloc_past (w := w8) _ 0 0 (by omega)).trans HV8.out.erc, by simp, Nat.le_refl _, by omega, by omega, by omega, Chg.refl _ _, fun g hg => by cases hg⟩
        obtain ⟨d0, hd0, hp0⟩ := HB.out.inv.root
        have hvl := vals_len HB.out.inv HB.out.bnd HKY.out
        have hnk := HN.out
        have hpc := values_any wc _ (w.heap.size + 1 + 1) (w.heap.size + 1 + 1) M wc.heap.size 4 w8.heap.size w.heap.size s1 R1 most et ep _ (M + 1) (w.heap.size + 1 + 1) d0 [] _ _ _ hd0 (by omega) ⟨HB.out, HB8.out.alloc (by omega) (.cells #[.pointer (some ⟨wc.heap.size, 4, none⟩)] 46), hv9, rfl, by simp; omega⟩
        have HPC := hide hpc
        have HVL := hide hvl
        clear hv9 hpc hd0 hp0 hvl hnk
        go_wp2_with fail
        refine HPC.out.mono ?_
        clear HPC
        rintro _ w10 ⟨vv, rfl, hv10, hb10, _⟩
        generalize (if (vist most [] ((vals s1 (M + 1) (w.heap.size + 1 + 1)).map (val s1))).2 then Value.iface et ep else Value.nilIface) = u3
        have hs10 := hb10.size
        have HP10 := hide (own_chg (HP8.out.alloc (.cells #[.pointer (some ⟨wc.heap.size, 4, none⟩)] 46)) hv10.chg (fun g hg e => own_nof HP8.out HV8.out.fbk (by rw [hg, e])))
        have HS10 := hide (own_chg (HV8.out.own.alloc (.cells #[.pointer (some ⟨wc.heap.size, 4, none⟩)] 46)) hv10.chg (fun g hg e => own_nof HV8.out.own HV8.out.fbk (by rw [hg, e])))
        have HV10 := hide hv10.own
        have HF10 : Hid (Blk w10 wc.heap.size 27 #[vp, vs, .bool false, .bool false, vv, .slice none 0 0]) := hv10.fbk
        have HB10 := hide hb10
        clear hv10 hb10
        have hx := hasprefix_any wc w10 (w.heap.size + 1 + 1) (w.heap.size + 1 + 1) M s1 R1 str HB.out HB10.out (by omega)
        have HX := hide hx
        clear hx
        obtain ⟨z1, hz1⟩ : ∃ z1, z1 = !(pfx s1 (str.length + 1) (w.heap.size + 1 + 1) str).isEmpty := ⟨_, rfl⟩
        obtain ⟨z2, hz2⟩ : ∃ z2, z2 = !(pfx s1 (str.length + 1) (w.heap.size + 1 + 1) str.reverse).isEmpty := ⟨_, rfl⟩
        have HZ1 := hide hz1
        have HZ2 := hide hz2
        clear hz1 hz2
        go_wp2_with fail
        refine HX.out.mono ?_
        clear HX
        rintro _ w11 ⟨rfl, hb11⟩
        rw [← HZ1.out]
        have hx := hassuffix_any wc w11 (w.heap.size + 1 + 1) (w.heap.size + 1 + 1) M s1 R1 str HB.out (HB10.out.trans (hb11.mono HB10.out.size)) (by omega)
        have HX := hide hx
        have HB11 := hide hb11
        clear hx hb11
        go_wp2_with fail
        refine HX.out.mono ?_
        clear HX
        rintro _ w12 ⟨rfl, hb12⟩
        rw [← HZ2.out]
        have hb12' := HB11.out.trans (hb12.mono HB11.out.size)
        have hF12 := HF10.out.below hb12' HF10.out.lt
        have f2 : w12.cell? ⟨wc.heap.size, 2, none⟩ = some (.bool false) := by rw [hF12.cell]; rfl
        have f3 : w12.cell? ⟨wc.heap.size, 3, none⟩ = some (.bool false) := by rw [hF12.cell]; rfl
        have g2 := hF12.frozen 2
        have g3 := hF12.frozen 3
        have HF12 := hide hF12
        have HB12 := hide hb12'
        clear hb12 hb12' hF12
        go_wp2_with fail
        have hF13 : Blk ((w12.setCell ⟨wc.heap.size, 2, none⟩ (.bool z1)).setCell ⟨wc.heap.size, 3, none⟩ (.bool z2)) wc.heap.size 27 #[vp, vs, .bool z1, .bool z2, vv, .slice none 0 0] := (HF12.out.set_ 2 (.bool z1)).set_ 3 (.bool z2)
        have hB13 : Below wc.heap.size wc ((w12.setCell ⟨wc.heap.size, 2, none⟩ (.bool z1)).setCell ⟨wc.heap.size, 3, none⟩ (.bool z2)) := ((HB10.out.trans (HB12.out.mono HB10.out.size)).setCell (p := ⟨wc.heap.size, 2, none⟩) (Nat.le_refl _) _).setCell (p := ⟨wc.heap.size, 3, none⟩) (Nat.le_refl _) _
        have hC13 : Chg (fun i => i = wc.heap.size) w10 ((w12.setCell ⟨wc.heap.size, 2, none⟩ (.bool z1)).setCell ⟨wc.heap.size, 3, none⟩ (.bool z2)) := ((Chg.ofBelow HB12.out (fun i => i = wc.heap.size)).setCell (p := ⟨wc.heap.size, 2, none⟩) (fun _ => rfl) _).setCell (p := ⟨wc.heap.size, 3, none⟩) (fun _ => rfl) _
        have hec := entries_any wc _ (w.heap.size + 1 + 1) (w.heap.size + 1 + 1) M s1 R1 HB.out hB13 (by have := HVL.out; have := HN.out; omega)
        have HP13 := hide (own_chg HP10.out hC13 (fun g hg e => own_nof HP10.out HF10.out (by rw [hg, e])))
        have HS13 := hide (own_chg HS10.out hC13 (fun g hg e => own_nof HS10.out HF10.out (by rw [hg, e])))
        have HV13 := hide (own_chg HV10.out hC13 (fun g hg e => own_nof HV10.out HF10.out (by rw [hg, e])))
        generalize ((w12.setCell ⟨wc.heap.size, 2, none⟩ (.bool z1)).setCell ⟨wc.heap.size, 3, none⟩ (.bool z2)) = w13 at *
        have HF13 := hide hF13
        have HEC2 := hide hec
        clear hF13 hB13 hC13 hec
        refine HEC2.out.mono ?_
        clear HEC2
        rintro _ w14 ⟨v14, rfl, hv14, hb14, hk14⟩
        obtain ⟨L, hL⟩ : ∃ L, L = vals s1 (M + 1) (w.heap.size + 1 + 1) := ⟨_, rfl⟩
        rw [← hL] at hv14
        obtain ⟨A14, c14, rfl, _, _⟩ := own_cap hv14
        have HLL := hide hL
        have hLl : L.length ≤ 2147483647 := by have := HVL.out; have := HN.out; rw [hL]; omega
        have HV14 := hide hv14
        have HB14 := hide hb14
        have hst14 : ElSt wc.heap.size wc.heap.size w14 w14 (fun ve => #[vp, vs, .bool z1, .bool z2, vv, ve]) s1 (L.take 0) (.slice none 0 0) := ⟨hk14 _ _ _ HF13.out (by decide), World.ownsRow_nil _ _ _ _, fun _ _ _ h _ _ => h, Below.refl _ _, Nat.le_refl _⟩
        have HP14 := hide (own_kept57 HP13.out hk14 (by decide))
        have HS14 := hide (own_kept57 HS13.out hk14 (by decide))
        have HVV14 := hide (own_kept57 HV13.out hk14 (by decide))
        have HST14 := hide hst14
        obtain ⟨i0, hi36, hz0, hz1, hz2⟩ := info_parts info36
        have HZ := hide (And.intro hz0 (And.intro hz1 hz2))
        clear hL hv14 hb14 hk14 hst14 hz0 hz1 hz2
        go_wp2_with fail
        go_loopw [60] (fun s60 wr => ∃ j : Nat, s60 = .int .i64 j ∧ j ≤ L.length ∧ Hid (∃ ve, ElSt wc.heap.size wc.heap.size w14 wr (fun ve => #[vp, vs, .bool z1, .bool z2, vv, ve]) s1 (L.take j) ve)) (fun s60 _ => L.length - (intOf s60).toNat)
        case atStart => exact ⟨0, rfl, Nat.zero_le _, (⟨_, HST14.out⟩ : ∃ ve, ElSt wc.heap.size wc.heap.size w14 w14 (fun ve => #[vp, vs, .bool z1, .bool z2, vv, ve]) s1 (L.take 0) ve)⟩
        case round =>
          obtain ⟨j, rfl, hj, HI⟩ := hrel
          obtain ⟨ve, hst⟩ := HI.out
          by_cases hlt : j < L.length
          · obtain ⟨k, hk⟩ : ∃ k, L[j]? = some k := ⟨_, List.getElem?_eq_getElem hlt⟩
            have hvr := own_kept36 HV14.out hst.kept (by decide) (fun e => by
              obtain ⟨cs, hcs⟩ := own_blk HV14.out e
              exact hcs.ne_ HST14.out.fbk (by decide) rfl)
            obtain ⟨g, hA, hg, k0, k1⟩ := RdK.of_own hvr j k hk
            subst hA
            have hkm : k ∈ vals s1 (M + 1) (w.heap.size + 1 + 1) := HLL.out ▸ List.mem_of_getElem? hk
            obtain ⟨d0, hd0, hp0⟩ := HB.out.inv.root
            obtain ⟨q, m, hkv⟩ := (vals_mem HB.out.inv (fun b d hd => (HB.out.bnd.node b d hd).1) (M + 1) (w.heap.size + 1 + 1) d0 k hd0 (by omega)).1 hkm
            have hkb := HB.out.leaf (HB14.out.trans hst.bel) hkv
            have hkl := hkb.lt
            have kc : wr.cell? ⟨k, 0, none⟩ = some (.int .i64 (val s1 k)) := by rw [hkb.cell]; rfl
            have hst5 := (hst.later ((Below.refl wr.heap.size wr).alloc (Nat.le_refl _) (.cells #[.string (S (key s1 k)), .pointer (some ⟨k, 0, none⟩)] 57))).later ((Below.refl _ _).alloc (Nat.le_refl _) (.cells #[.string (S (key s1 k)), .int .i64 (val s1 k)] 36))
            obtain ⟨A5, c5, hv5, hl5, hm5⟩ := own_cap hst5.own
            have htl : (L.take j).length = j := by rw [List.length_take]; omega
            rw [htl] at hv5
            subst hv5
            have e0 : wr.cell? ⟨wc.heap.size, 5, none⟩ = some (.slice A5 j c5) := by rw [hst.fbk.cell]; rfl
            have ebl := hst.fbk.lt
            have htk : L.take (j + 1) = L.take j ++ [k] := take_succ hk
            have HST := hide hst
            have HS5 := hide hst5
            have HTL := hide htl
            have HTK := hide htk
            have HTS := hide (Nat.le_trans hst5.le (Nat.le_of_lt hst5.fbk.lt))
            clear hst hst5 hk hvr hkm hd0 hp0 hkv hkb htl htk hl5 hm5 HI
            go_upto_region 20 with fail
            go_region_law
              ((first
               | (refine step_appendN (by rfl) (.tmp 65) (.tmp 73) 25 (by rfl) wc.heap.size 36 i0 _ 2 24 Tryd.underlying25 hi36 HZ.out.1 HZ.out.2.1 HZ.out.2.2 rfl (by decide) (.slice A5 j c5) (by rfl) j (encN s1 (L.take j)) (by have h := HS5.out.own; rw [HTL.out] at h; exact h) HTS.out ⟨wr.heap.size + 1, 0, none⟩ 1 1 [.string (S (key s1 k)), .int .i64 (val s1 k)] (by rfl) rfl (news_blk (t := 36) (cs := #[.string (S (key s1 k)), .int .i64 (val s1 k)]) (Blk.new_ _ _ _ (by simp))) (by intro q hq; simp at hq; rcases hq with rfl | rfl <;> rfl) (by unfold maxLen; omega) (by omega) ?_
                  intro v6 w6 HO6 HC6 HV6
                  obtain ⟨A6, c6, hv6, hl6, hm6⟩ := own_cap HO6.out
                  subst hv6
                  have hC6 : Chg (fun g => (Value.slice A5 j c5).ownBlock = some g) ((wr.alloc (.cells #[.string (S (key s1 k)), .pointer (some ⟨k, 0, none⟩)] 57)).alloc (.cells #[.string (S (key s1 k)), .int .i64 (val s1 k)] 36)) w6 := ((Chg.refl (fun g => (Value.slice A5 j c5).ownBlock = some g) _).drew).trans HC6.out (fun _ _ h => h)
                  have hnx := HS5.out.next (k := k) hC6 (by rw [HTL.out]) HO6.out
                  have hb6 := HS5.out.fbk.chg hC6 (fun e => by
                    obtain ⟨cs', hcs⟩ := own_blk HS5.out.own e
                    exact hcs.ne_ HS5.out.fbk (by decide) rfl)
                  have e6 : w6.cell? ⟨wc.heap.size, 5, none⟩ = some (.slice A5 j c5) := by rw [hb6.cell]; rfl
                  have g6 := hb6.frozen 5
                  have HNX := hide hnx
                  clear hnx hb6 hl6 hm6 hC6)
               | fail))
            all_goals
              go_wp2
              go_roundw
              case measure => simp [intOf]; omega
              case rel => exact ⟨j + 1, by go_num, by omega, (⟨_, HTK.out ▸ HNX.out⟩ : ∃ ve, ElSt wc.heap.size wc.heap.size w14 _ (fun ve => #[vp, vs, .bool z1, .bool z2, vv, ve]) s1 (L.take (j + 1)) ve)⟩
          · have hjL : j = L.length := by omega
            rw [hjL, List.take_length] at hst
            have HST := hide hst
            have h0 := hst.fbk
            have c0 : wr.cell? ⟨wc.heap.size, 0, none⟩ = some vp := by rw [h0.cell]; rfl
            have c1 : wr.cell? ⟨wc.heap.size, 1, none⟩ = some vs := by rw [h0.cell]; rfl
            have c2 : wr.cell? ⟨wc.heap.size, 2, none⟩ = some (.bool z1) := by rw [h0.cell]; rfl
            have c3 : wr.cell? ⟨wc.heap.size, 3, none⟩ = some (.bool z2) := by rw [h0.cell]; rfl
            have c4 : wr.cell? ⟨wc.heap.size, 4, none⟩ = some vv := by rw [h0.cell]; rfl
            have c5 : wr.cell? ⟨wc.heap.size, 5, none⟩ = some ve := by rw [h0.cell]; rfl
            have hfl := h0.lt
            have hr := HRB1.out.below (HB14.out.trans hst.bel) HRB1.out.lt
            have r0 : wr.cell? ⟨w.heap.size + 1, 0, none⟩ = some (.slice none 0 0) := by rw [hr.cell]; rfl
            have r1 : wr.cell? ⟨w.heap.size + 1, 1, none⟩ = some (.slice none 0 0) := by rw [hr.cell]; rfl
            have r2 : wr.cell? ⟨w.heap.size + 1, 2, none⟩ = some (.bool false) := by rw [hr.cell]; rfl
            have r3 : wr.cell? ⟨w.heap.size + 1, 3, none⟩ = some (.bool false) := by rw [hr.cell]; rfl
            have r4 : wr.cell? ⟨w.heap.size + 1, 4, none⟩ = some (.slice none 0 0) := by rw [hr.cell]; rfl
            have r5 : wr.cell? ⟨w.heap.size + 1, 5, none⟩ = some (.slice none 0 0) := by rw [hr.cell]; rfl
            have q0 := hr.frozen 0
            have q1 := hr.frozen 1
            have q2 := hr.frozen 2
            have q3 := hr.frozen 3
            have q4 := hr.frozen 4
            have q5 := hr.frozen 5
            have hrl := hr.lt
            have HRR := hide hr
            obtain ⟨LP, hLP⟩ : ∃ LP, LP = (vist most [] ((pfx s1 (str.length + 1) (w.heap.size + 1 + 1) str).map (val s1))).1 := ⟨_, rfl⟩
            obtain ⟨LS, hLS⟩ : ∃ LS, LS = (vist most [] ((pfx s1 (str.length + 1) (w.heap.size + 1 + 1) str.reverse).map (val s1))).1 := ⟨_, rfl⟩
            obtain ⟨LV, hLV⟩ : ∃ LV, LV = (vist most [] ((vals s1 (M + 1) (w.heap.size + 1 + 1)).map (val s1))).1 := ⟨_, rfl⟩
            have hP15 := own_kept36 HP14.out hst.kept (by decide) (own_nof HP14.out HST14.out.fbk)
            have hS15 := own_kept36 HS14.out hst.kept (by decide) (own_nof HS14.out HST14.out.fbk)
            have hV15 := own_kept36 HVV14.out hst.kept (by decide) (own_nof HVV14.out HST14.out.fbk)
            rw [← hLP] at hP15
            rw [← hLS] at hS15
            rw [← hLV] at hV15
            obtain ⟨AP, cP, hvp, _, _⟩ := own_cap hP15
            obtain ⟨AS, cS, hvs, _, _⟩ := own_cap hS15
            obtain ⟨AV, cV, hvv, _, _⟩ := own_cap hV15
            obtain ⟨AE, cE, hve, _, _⟩ := own_cap hst.own
            have HLP := hide hLP
            have HLS := hide hLS
            have HLV := hide hLV
            have HP15 := hide hP15
            have HS15 := hide hS15
            have HV15 := hide hV15
            clear h0 hr hst HI hjL hLP hLS hLV hP15 hS15 hV15
            subst hvp
            subst hvs
            subst hvv
            subst hve
            obtain ⟨hb6, hc6⟩ := set6 HRR.out (.slice AP LP.length cP) (.slice AS LS.length cS) (.bool z1) (.bool z2) (.slice AV LV.length cV) (.slice AE L.length cE)
            have HB6 := hide hb6
            have HC6 := hide hc6
            clear hb6 hc6
            go_wp2
            have j0 := HB6.out.cell 0
            have j1 := HB6.out.cell 1
            have j2 := HB6.out.cell 2
            have j3 := HB6.out.cell 3
            have j4 := HB6.out.cell 4
            have j5 := HB6.out.cell 5
            have hbw : Below w.heap.size w wr := (HBW.out.trans (HBL.out.mono (by omega))).trans ((HB14.out.trans HST.out.bel).mono (by omega))
            refine bodyPost_ret (v := .agg #[.slice AP LP.length cP, .slice AS LS.length cS, .bool z1, .bool z2, .slice AV LV.length cV, .slice AE L.length cE]) ?_ rfl ?_
            · simp [results, Tryd.f6, go_sem, j0, j1, j2, j3, j4, j5]
            · have hnb : ∀ {ty sz nn : Nat} {v : Value} {xs : List Value}, wr.ownsRow wc.heap.size ty sz v nn xs → ∀ g, v.ownBlock = some g → ¬ g = w.heap.size + 1 := fun h g hg e => by
                have := (h.lt g hg).1
                omega
              refine ⟨s1, w.heap.size + 1 + 1, M, _, _, _, _, HB.out.inv, HB.out.bnd, HKY.out, by rw [HZ1.out, HZ2.out], ⟨LP, HLP.out, own_base (own_chg HP15.out HC6.out (hnb HP15.out)) (by omega)⟩, ⟨LS, HLS.out, own_base (own_chg HS15.out HC6.out (hnb HS15.out)) (by omega)⟩, ⟨LV, HLV.out, own_base (own_chg HV15.out HC6.out (hnb HV15.out)) (by omega)⟩, ?_, ?_⟩
              · rw [← HLL.out]
                exact own_base (own_chg HST.out.own HC6.out (hnb HST.out.own)) (by omega)
              · exact hbw.trans (HC6.out.below hbw.size (fun i hi => by omega))
end Go.Proofs.YtjekaagjgamfkaaDoor
