/- The walk of pdqsort: whatever it is handed, a permutation of the part, sorted. Under sizes alone. -/
import Derived.Test.YtaihafoopoaahaaSo5
import Derived.Test.YtaihafoopoaahaaSo6
import Derived.Test.YtaihafoopoaahaaSo7
import Derived.Test.YtaihafoopoaahaaSo8
import Derived.Sort.LotD3
import Derived.Sort.LotB
import Derived.Deep.LoopGhost
import Derived.Deep.Cut
import Derived.Deep.CutRange
namespace Go.Proofs.Ytaihafoopoaahaa
open Go.RowKit

section
variable {sb blk B sz : Nat} {lt : Nat → Nat → Bool} {R : World → Array Nat → Prop}

/-- In the middle of pdqsort: what is left is [a, b). -/
structure PS (lt : Nat → Nat → Bool) (blk : Nat) (R : World → Array Nat → Prop) (W0 : World) (d0 : Array Nat) (a0 b0 : Nat) (W : World) (a b : Nat) (d : Array Nat) : Prop where
  at_ : At blk R W0 W d
  below : Sort.Below lt a b d
  size : b ≤ d.size
  fin : ∀ X, Sort.PermIn a b d X → Sort.SortedIn lt a b X → Sort.PermIn a0 b0 d0 X ∧ Sort.SortedIn lt a0 b0 X

theorem PS.perm {W0 : World} {d0 : Array Nat} {a0 b0 : Nat} {W W' : World} {a b : Nat} {d d' : Array Nat} (h : PS lt blk R W0 d0 a0 b0 W a b d) (hat : At blk R W0 W' d') (hp : Sort.PermIn a b d d') : PS lt blk R W0 d0 a0 b0 W' a b d' :=
  ⟨hat, h.below.perm h.size hp, by rw [hp.1]; exact h.size, fun X h1 h2 => h.fin X (Sort.permIn_trans _ _ _ a b hp h1) h2⟩

theorem At.then_ {W0 W W' : World} {d d' : Array Nat} (h : At blk R W0 W d) (k : At blk R W W' d') : At blk R W0 W' d' := ⟨h.1.trans k.1 (fun _ _ h => h), k.2⟩
theorem At.below {W0 W W' : World} {d : Array Nat} (he : SortEnv sb blk B sz lt R) (h : At blk R W0 W d) (k : Below W.heap.size W W') : At blk R W0 W' d := ⟨h.1.trans (Chg.ofBelow k _) (fun _ _ h => h), he.grow _ _ _ h.2 k⟩

set_option linter.unusedSimpArgs false in
set_option linter.unusedVariables false in
set_option maxHeartbeats 4000000 in
set_option maxRecDepth 100000 in
theorem pdqsort_any (h : SortEnv sb blk B sz lt R) (hS : Sort.SWO lt) : ∀ (n : Nat) (W : World) (d : Array Nat) (a b lim : Nat), b - a = n → R W d → a ≤ b → b ≤ sz → lim ≤ 100 → Sort.Below lt a b d →
    Calls Try.prog 29 #[.iface 39 (rcv sb), .int .i64 a, .int .i64 b, .int .i64 lim] W fun e w' => e = .returned (.tuple #[]) ∧ ∃ d', At blk R W w' d' ∧ Sort.PermIn a b d d' ∧ Sort.SortedIn lt a b d' := by
  intro n
  induction n using Nat.strongRecOn with
  | _ n ih =>
  intro W d a0 b0 lim0 hn hR hab hb hlim hbl
  have mL := finds_Less sb
  have mS := finds_Swap sb
  have eL := enters_Less
  have eS := enters_Swap
  have HE := hide h
  have HS := hide hS
  have hsm := h.small
  have IH := hide ih
  have HPS : Hid (PS lt blk R W d a0 b0 W a0 b0 d) := (⟨⟨Chg.refl _ _, hR⟩, hbl, by rw [h.size _ _ hR]; exact hb, fun X h1 h2 => ⟨h1, h2⟩⟩ : PS lt blk R W d a0 b0 W a0 b0 d)
  clear h hS ih hR hbl
  go_enter Try.func29, Try.ntmps29
  go_wp2
  go_loopg [1, 2, 3, 8, 9] (b0 - a0 + 1) (fun gk s1 s2 s3 s8 s9 wr => ∃ (a b lim : Nat) (wb wp : Bool), s1 = .int .i64 a ∧ s2 = .int .i64 b ∧ s3 = .int .i64 lim ∧ s8 = .bool wb ∧ s9 = .bool wp ∧ a ≤ b ∧ b ≤ sz ∧ lim ≤ 100 ∧ b - a < gk ∧ b - a ≤ n ∧ Hid (∃ dd, PS lt blk R W d a0 b0 wr a b dd))
  case atStart => exact ⟨a0, b0, lim0, true, true, rfl, rfl, rfl, rfl, rfl, hab, hb, hlim, by omega, by omega, (⟨d, HPS.out⟩ : ∃ dd, PS lt blk R W d a0 b0 W a0 b0 dd)⟩
  case round =>
    obtain ⟨a, b, lim, wb, wp, rfl, rfl, rfl, rfl, rfl, hab, hb, hlim, hgk, hn2, HI⟩ := hrel
    obtain ⟨dd, hps⟩ := HI.out
    have HP := hide hps
    clear HI HPS hps
    by_cases h12 : b - a ≤ 12
    · have HC := hide (insertionSort_any HE.out wr dd HP.out.at_.2 a b hab hb)
      go_wp2_with fail
      refine HC.out.mono ?_
      rintro _ w5 ⟨rfl, hc5, hr5⟩
      have HF : Hid (∃ d', At blk R W w5 d' ∧ Sort.PermIn a0 b0 d d' ∧ Sort.SortedIn lt a0 b0 d') := by
        have hq := Sort.insertionSort_holds HS.out dd a b hab HP.out.size
        exact (⟨_, HP.out.at_.then_ ⟨hc5, hr5⟩, HP.out.fin _ hq.1 hq.2⟩ : ∃ d', At blk R W w5 d' ∧ Sort.PermIn a0 b0 d d' ∧ Sort.SortedIn lt a0 b0 d')
      clear hc5 hr5 HC
      go_wp2
      (try simp only [Exit.inBlock, Exit.then]); refine bodyPost_ret (results_none rfl _ _ _) rfl ?_
      exact ⟨rfl, HF.out⟩
    · by_cases hl0 : lim = 0
      · subst hl0
        have HC := hide (heapSort_any HE.out wr dd HP.out.at_.2 a b (by omega) hb)
        go_wp2_with fail
        refine HC.out.mono ?_
        rintro _ w5 ⟨rfl, hc5, hr5⟩
        have HF : Hid (∃ d', At blk R W w5 d' ∧ Sort.PermIn a0 b0 d d' ∧ Sort.SortedIn lt a0 b0 d') := by
          have hq := Sort.heapSort_holds HS.out dd a b hab HP.out.size
          exact (⟨_, HP.out.at_.then_ ⟨hc5, hr5⟩, HP.out.fin _ hq.1 hq.2⟩ : ∃ d', At blk R W w5 d' ∧ Sort.PermIn a0 b0 d d' ∧ Sort.SortedIn lt a0 b0 d')
        clear hc5 hr5 HC
        go_wp2
        (try simp only [Exit.inBlock, Exit.then]); refine bodyPost_ret (results_none rfl _ _ _) rfl ?_
        exact ⟨rfl, HF.out⟩
      · go_upto_if 35 with fail
        go_cut [3] from 19 to 128 (fun v3 wx => ∃ l1 : Nat, v3 = .int .i64 l1 ∧ l1 ≤ 100 ∧ Hid (∃ dd, PS lt blk R W d a0 b0 wx a b dd))
        case first =>
          cases wb with
          | true =>
            go_wp2
            go_meet
            case rel => exact ⟨lim, rfl, hlim, (⟨dd, HP.out⟩ : ∃ dd, PS lt blk R W d a0 b0 wr a b dd)⟩
          | false =>
            have HC := hide (breakPatterns_any HE.out wr dd HP.out.at_.2 a b (by omega) hb)
            go_wp2_with fail
            refine HC.out.mono ?_
            rintro _ w5 ⟨rfl, h5⟩
            have HF : Hid (∃ dd, PS lt blk R W d a0 b0 w5 a b dd) := (⟨_, HP.out.perm (HP.out.at_.then_ h5) (Sort.breakPatterns_holds dd a b hab HP.out.size)⟩ : ∃ dd, PS lt blk R W d a0 b0 w5 a b dd)
            clear h5 HC HP
            go_wp2
            go_meet
            case rel => exact ⟨lim - 1, by go_num, by omega, HF⟩
        case rest =>
          obtain ⟨l1, rfl, hl1, HI⟩ := hcut
          obtain ⟨d1, hps⟩ := HI.out
          have HP1 := hide hps
          clear HI HP hps
          have hcp := Sort.choosePivot_holds lt d1 a b (by omega)
          have HC := hide (choosePivot_any HE.out wc d1 HP1.out.at_.2 a b (by omega) hb)
          go_wp2_with fail
          refine HC.out.mono ?_
          rintro _ w5 ⟨rfl, hb5⟩
          have HP5 : Hid (PS lt blk R W d a0 b0 w5 a b d1) := (HP1.out.perm (HP1.out.at_.below HE.out hb5) (Sort.permIn_refl d1 a b))
          clear hb5 HC HP1
          obtain ⟨p, hp⟩ : ∃ p, p = (Sort.choosePivot lt d1 a b).1 := ⟨_, rfl⟩
          obtain ⟨hh, hhh⟩ : ∃ hh, hh = (Sort.choosePivot lt d1 a b).2 := ⟨_, rfl⟩
          rw [← hp] at hcp
          rw [← hp, ← hhh]
          clear hp hhh
          go_upto_if 50 with fail
          go_cut [11, 12] from 19 to 128 (fun v11 v12 wx => ∃ (p2 : Nat) (q2 : Int), v11 = .int .i64 p2 ∧ v12 = .int .i64 q2 ∧ a ≤ p2 ∧ p2 < b ∧ Hid (∃ dd, PS lt blk R W d a0 b0 wx a b dd))
          case first =>
            cases hh with
            | unknown =>
              simp only [hintN]
              go_wp2
              go_meet
              case rel => exact ⟨p, 0, rfl, rfl, hcp.1, hcp.2, (⟨_, HP5.out⟩ : ∃ dd, PS lt blk R W d a0 b0 w5 a b dd)⟩
            | increasing =>
              simp only [hintN]
              go_wp2
              go_meet
              case rel => exact ⟨p, 1, rfl, rfl, hcp.1, hcp.2, (⟨_, HP5.out⟩ : ∃ dd, PS lt blk R W d a0 b0 w5 a b dd)⟩
            | decreasing =>
              simp only [hintN]
              have HC := hide (reverseRange_any HE.out w5 d1 HP5.out.at_.2 a b (by omega) hb)
              go_wp2_with fail
              refine HC.out.mono ?_
              rintro _ w6 ⟨rfl, hc6, hr6⟩
              have HF : Hid (∃ dd, PS lt blk R W d a0 b0 w6 a b dd) := (⟨_, HP5.out.perm (HP5.out.at_.then_ ⟨hc6, hr6⟩) (Sort.reverseRange_holds d1 a b hab HP5.out.size)⟩ : ∃ dd, PS lt blk R W d a0 b0 w6 a b dd)
              clear hc6 hr6 HC HP5
              go_wp2
              go_meet
              case rel => exact ⟨(b - 1) - (p - a), 1, by go_num, rfl, by omega, by omega, HF⟩
          case rest =>
            obtain ⟨p2, q2, rfl, rfl, hp1, hp2, HI⟩ := hcut
            clear HP5 hcp
            go_upto_region 15 with fail
            go_cut [68] from 19 to 128 (fun v68 wx => ∃ c : Bool, v68 = .bool c ∧ Hid (∃ dd, PS lt blk R W d a0 b0 wx a b dd))
            case first =>
              cases wb with
              | false =>
                go_wp2
                go_meet
                case rel => exact ⟨false, rfl, HI⟩
              | true =>
                cases wp with
                | false =>
                  go_wp2
                  go_meet
                  case rel => exact ⟨false, rfl, HI⟩
                | true =>
                  by_cases hq : q2 = 1
                  · subst hq
                    go_wp2
                    go_meet
                    case rel => exact ⟨true, rfl, HI⟩
                  · have hq9 : (q2 == 1) = false := by simp [hq]
                    go_wp2
                    go_meet
                    case rel => exact ⟨false, rfl, HI⟩
            case rest =>
              obtain ⟨c, rfl, HI2⟩ := hcut
              clear HI
              go_upto_if 68 with fail
              go_cut [] from 19 to 128 (fun wx => Hid (∃ dd, PS lt blk R W d a0 b0 wx a b dd))
              case first =>
                cases c with
                | false =>
                  go_wp2
                  go_meet
                  case rel => exact HI2
                | true =>
                  obtain ⟨d2, hps⟩ := HI2.out
                  have HP2 := hide hps
                  clear hps HI2
                  have HC := hide (partialInsertionSort_any HE.out wc d2 HP2.out.at_.2 a b (by omega) hb)
                  have hq := hide (Sort.partialInsertionSort_holds HS.out d2 a b (by omega) HP2.out.size HP2.out.below)
                  cases hpi : (Sort.partialInsertionSort lt d2 a b).2 with
                  | true =>
                    rw [hpi] at HC
                    go_wp2_with fail
                    refine HC.out.mono ?_
                    rintro _ w6 ⟨rfl, h6⟩
                    have HF : Hid (∃ d', At blk R W w6 d' ∧ Sort.PermIn a0 b0 d d' ∧ Sort.SortedIn lt a0 b0 d') :=
                      (⟨_, HP2.out.at_.then_ h6, HP2.out.fin _ hq.out.1 (hq.out.2 hpi)⟩ : ∃ d', At blk R W w6 d' ∧ Sort.PermIn a0 b0 d d' ∧ Sort.SortedIn lt a0 b0 d')
                    clear h6 HC hq hpi
                    go_wp2
                    (try simp only [Exit.inBlock, Exit.then]); refine bodyPost_ret (results_none rfl _ _ _) rfl ?_
                    exact ⟨rfl, HF.out⟩
                  | false =>
                    rw [hpi] at HC
                    go_wp2_with fail
                    refine HC.out.mono ?_
                    rintro _ w6 ⟨rfl, h6⟩
                    have HF : Hid (∃ dd, PS lt blk R W d a0 b0 w6 a b dd) := (⟨_, HP2.out.perm (HP2.out.at_.then_ h6) hq.out.1⟩ : ∃ dd, PS lt blk R W d a0 b0 w6 a b dd)
                    clear h6 HC hq hpi
                    go_wp2
                    go_meet
                    case rel => exact HF
              case rest =>
                have HI3 := hcut
                clear hcut HI2
                go_upto_region 17 with fail
                go_cut [82] from 19 to 128 (fun v82 wx => ∃ c : Bool, v82 = .bool c ∧ Hid (∃ dd, PS lt blk R W d a0 b0 wx a b dd ∧ (c = true → 0 < a ∧ lt dd[a - 1]! dd[p2]! = false)))
                case first =>
                  obtain ⟨d3, hps⟩ := HI3.out
                  have HP3 := hide hps
                  clear hps HI3
                  by_cases ha0 : 0 < a
                  · cases hl : lt d3[a - 1]! d3[p2]! with
                    | true =>
                      go_wp2_with fail
                      refine (HE.out.lessI HP3.out.at_.1 HP3.out.at_.2 (a - 1) p2 _ _ (by omega) rfl (by omega) (by omega) true hl).mono ?_
                      rintro _ w6 ⟨rfl, h6⟩
                      have HF : Hid (∃ dd, PS lt blk R W d a0 b0 w6 a b dd ∧ (false = true → 0 < a ∧ lt dd[a - 1]! dd[p2]! = false)) := (⟨d3, HP3.out.perm h6 (Sort.permIn_refl _ _ _), fun h => by cases h⟩ : ∃ dd, PS lt blk R W d a0 b0 w6 a b dd ∧ (false = true → 0 < a ∧ lt dd[a - 1]! dd[p2]! = false))
                      clear h6
                      go_wp2
                      go_meet
                      case rel => exact ⟨false, rfl, HF⟩
                    | false =>
                      go_wp2_with fail
                      refine (HE.out.lessI HP3.out.at_.1 HP3.out.at_.2 (a - 1) p2 _ _ (by omega) rfl (by omega) (by omega) false hl).mono ?_
                      rintro _ w6 ⟨rfl, h6⟩
                      have HF : Hid (∃ dd, PS lt blk R W d a0 b0 w6 a b dd ∧ (true = true → 0 < a ∧ lt dd[a - 1]! dd[p2]! = false)) := (⟨d3, HP3.out.perm h6 (Sort.permIn_refl _ _ _), fun _ => ⟨ha0, hl⟩⟩ : ∃ dd, PS lt blk R W d a0 b0 w6 a b dd ∧ (true = true → 0 < a ∧ lt dd[a - 1]! dd[p2]! = false))
                      clear h6
                      go_wp2
                      go_meet
                      case rel => exact ⟨true, rfl, hide (HF.out.imp fun _ hh => ⟨hh.1, fun _ => hh.2 trivial⟩)⟩
                  · have HF : Hid (∃ dd, PS lt blk R W d a0 b0 wc a b dd ∧ (false = true → 0 < a ∧ lt dd[a - 1]! dd[p2]! = false)) := (⟨d3, HP3.out, fun h => by cases h⟩ : ∃ dd, PS lt blk R W d a0 b0 wc a b dd ∧ (false = true → 0 < a ∧ lt dd[a - 1]! dd[p2]! = false))
                    clear HP3
                    go_wp2
                    go_meet
                    case rel => exact ⟨false, rfl, HF⟩
                case rest =>
                  obtain ⟨c2, rfl, HI4⟩ := hcut
                  clear HI3
                  obtain ⟨d3, hps, hc2⟩ := HI4.out
                  have HP3 := hide hps
                  clear hps HI4
                  cases c2 with
                  | true =>
                    obtain ⟨ha0, hnl⟩ := hc2 rfl
                    clear hc2
                    obtain ⟨mid, hmid⟩ : ∃ mid, mid = (Sort.partitionEqual lt d3 a b p2).1 := ⟨_, rfl⟩
                    obtain ⟨d4, hd4⟩ : ∃ d4, d4 = (Sort.partitionEqual lt d3 a b p2).2 := ⟨_, rfl⟩
                    have hr := Sort.round_eq HS.out (Sort.partitionEqual_holds lt) ha0 hp1 hp2 HP3.out.size HP3.out.below hnl (show Sort.partitionEqual lt d3 a b p2 = (mid, d4) by rw [hmid, hd4])
                    obtain ⟨hm1, hm2, hr⟩ := hr
                    have HRD := hide hr
                    have HC := hide (partitionEqual_any HE.out wc d3 HP3.out.at_.2 a b p2 (by omega) hb (by omega))
                    rw [← hmid, ← hd4] at HC
                    clear hr hmid hd4 hnl
                    go_wp2_with fail
                    refine HC.out.mono ?_
                    rintro _ w6 ⟨rfl, h6⟩
                    have HF : Hid (∃ dd, PS lt blk R W d a0 b0 w6 mid b dd) := by
                      refine (⟨d4, ⟨HP3.out.at_.then_ h6, HRD.out.2.1, by rw [HRD.out.1]; exact HP3.out.size, fun X h1 h2 => ?_⟩⟩ : ∃ dd, PS lt blk R W d a0 b0 w6 mid b dd)
                      have h3 := HRD.out.2.2 X h1 h2
                      exact HP3.out.fin X h3.1 h3.2
                    clear h6 HC HRD HP3
                    go_wp2
                    go_roundg (b - mid + 1)
                    case measure => omega
                    case rel => exact ⟨mid, b, l1, wb, wp, rfl, rfl, rfl, rfl, rfl, hm2, hb, hl1, by omega, by omega, HF⟩
                  | false =>
                    clear hc2
                    obtain ⟨mid, hmid⟩ : ∃ mid, mid = (Sort.partition lt d3 a b p2).1 := ⟨_, rfl⟩
                    obtain ⟨ap, hap⟩ : ∃ ap, ap = (Sort.partition lt d3 a b p2).2.1 := ⟨_, rfl⟩
                    obtain ⟨d4, hd4⟩ : ∃ d4, d4 = (Sort.partition lt d3 a b p2).2.2 := ⟨_, rfl⟩
                    have hr := Sort.round_part HS.out (Sort.partition_holds lt) hp1 hp2 HP3.out.size HP3.out.below (show Sort.partition lt d3 a b p2 = (mid, ap, d4) by rw [hmid, hap, hd4])
                    obtain ⟨hm1, hm2, hr⟩ := hr
                    have HRD := hide hr
                    have HC := hide (partition_any HE.out wc d3 HP3.out.at_.2 a b p2 (by omega) hb (by omega))
                    rw [← hmid, ← hap, ← hd4] at HC
                    clear hr hmid hap hd4
                    go_wp2_with fail
                    refine HC.out.mono ?_
                    rintro _ w6 ⟨rfl, h6⟩
                    have HA6 : Hid (At blk R W w6 d4) := HP3.out.at_.then_ h6
                    have HFIN := hide HP3.out.fin
                    have HSZ := hide HP3.out.size
                    clear h6 HC HP3
                    by_cases hlr : mid - a < b - mid
                    · have HC := hide (IH.out (mid - a) (by omega) w6 d4 a mid l1 rfl HA6.out.2 hm1 (by omega) hl1 HRD.out.2.1)
                      go_wp2_with fail
                      refine HC.out.mono ?_
                      rintro _ w7 ⟨rfl, d7, h7, hp7, hs7⟩
                      have HF : Hid (∃ dd, PS lt blk R W d a0 b0 w7 (mid + 1) b dd) := by
                        have h8 := HRD.out.2.2.2.1 d7 hp7 hs7
                        refine (⟨d7, ⟨HA6.out.then_ h7, h8.1, by rw [hp7.1, HRD.out.1]; exact HSZ.out, fun X h1 h2 => ?_⟩⟩ : ∃ dd, PS lt blk R W d a0 b0 w7 (mid + 1) b dd)
                        have h3 := h8.2 X h1 h2
                        exact HFIN.out X h3.1 h3.2
                      clear h7 hp7 hs7 HC HRD HA6 HFIN HSZ
                      go_wp2
                      go_roundg (b - (mid + 1) + 1)
                      case measure => omega
                      case rel => exact ⟨mid + 1, b, l1, _, ap, by go_num, rfl, rfl, rfl, rfl, by omega, hb, hl1, by omega, by omega, HF⟩
                    · have HC := hide (IH.out (b - (mid + 1)) (by omega) w6 d4 (mid + 1) b l1 rfl HA6.out.2 (by omega) hb hl1 HRD.out.2.2.1)
                      rw [show ((mid + 1 : Nat) : Int) = (mid : Int) + 1 by omega] at HC
                      go_wp2_with fail
                      refine HC.out.mono ?_
                      rintro _ w7 ⟨rfl, d7, h7, hp7, hs7⟩
                      have HF : Hid (∃ dd, PS lt blk R W d a0 b0 w7 a mid dd) := by
                        have h8 := HRD.out.2.2.2.2 d7 hp7 hs7
                        refine (⟨d7, ⟨HA6.out.then_ h7, h8.1, by rw [hp7.1, HRD.out.1]; have := HSZ.out; omega, fun X h1 h2 => ?_⟩⟩ : ∃ dd, PS lt blk R W d a0 b0 w7 a mid dd)
                        have h3 := h8.2 X h1 h2
                        exact HFIN.out X h3.1 h3.2
                      clear h7 hp7 hs7 HC HRD HA6 HFIN HSZ
                      go_wp2
                      go_roundg (mid - a + 1)
                      case measure => omega
                      case rel => exact ⟨a, mid, l1, _, ap, rfl, rfl, rfl, rfl, rfl, by omega, by omega, hl1, by omega, by omega, HF⟩
end
end Go.Proofs.Ytaihafoopoaahaa
