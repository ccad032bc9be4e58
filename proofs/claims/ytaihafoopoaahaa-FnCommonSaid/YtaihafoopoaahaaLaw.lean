/- The frame of a law's row, for any law of this seat: where every call of the function on readable arguments returns true and leaves all old memory as it was, the law's row holds after the call. No condition. -/
import Derived.Test.YtaihafoopoaahaaRows
import Derived.WalkKit
import Derived.ProofKit
import Derived.OpenShut
import Derived.ShutString
import Derived.Below
import Derived.ChangeSame
namespace Go.Proofs.Ytaihafoopoaahaa
open Go.RowKit Go.WideShapes Go.ChangeShapes Go.ChangeAt

theorem own_knob : ownKnob Try.prog.godebug = none := by kernel_rfl
theorem laid_out : laidOutB Try.prog = true := by kernel_rfl

section
variable {H : Type} {enc : TypeId × Value → H} {P : Program}
theorem post_of_below {f : Func} {s : ChangeSpec} {apart fresh handsOn again : Bool} {W W' : World} {args : Array Value} {v : Value} {ds gs : List (DataW H)} {before pa pv : List MemPlace}
    (hW : DataW.Whole enc P f.params.toList s.vars apart W args.toList ds gs before)
    (hres : ∀ (b : Nat) (sp : Nat → Bool) (hd : Bool), DataW.TrodAll enc P W' b sp hd f.resultTypes.toList (v.resultList f.resultTypes.size) (s.fn H (ds ++ gs)).results [])
    (hargs : ∀ sp : Nat → Bool, (∀ p ∈ before, sp p.block = true) → DataW.TrodAll enc P W' 0 sp true f.params.toList args.toList (s.fn H (ds ++ gs)).args pa)
    (hvars : ∀ sp : Nat → Bool, (∀ p ∈ before, sp p.block = true) → DataW.TrodVars enc P W' sp s.vars (s.fn H (ds ++ gs)).vars pv)
    (hps : before = pa ++ pv) (hb : Below W.heap.size W W')
    (hok : ∀ (j : Nat) (t : TypeId) (r : Value), f.resultTypes[j]? = some t → (v.resultList f.resultTypes.size)[j]? = some r → Value.okWide P W' .any 0 t r) :
    s.post enc P f apart fresh handsOn again W args v W' := by
  have hlt : ∀ p ∈ before, p.block < W.heap.size := fun p hp => hW.lt p hp
  have hold : ∀ p ∈ before, (fun b => decide (b < W.heap.size)) p.block = true := fun p hp => by simpa using hlt p hp
  refine ⟨ds, gs, before, [], pa, pv, hW, hres _ _ _, hargs _ hold, hvars _ hold, World.keptBut_mono (fun p hp => ⟨hp, ?_⟩) (hb.frame (· ∈ before)), fun _ => ?_⟩
  · rw [hps, List.mem_append] at hp
    exact Or.inr hp
  · obtain ⟨_, _, _, _, _, hz, hn⟩ := hW
    refine ⟨hok, _, _, ([] ++ pa) ++ pv, ⟨[] ++ pa, pv, trodAll_append (hargs _ (fun _ _ => rfl)) (hres _ _ _), hvars _ (fun _ _ => rfl), rfl, ?_, ?_⟩, ?_⟩
    · intro b off hp
      have hin : MemPlace.cell b off ∈ before := by rw [hps]; simpa using hp
      rw [hb.frozen (hlt _ hin)]
      exact hz b off hin
    · intro ha
      have := hn ha
      rw [hps] at this
      simpa using this
    · intro p hp _
      rw [hps]
      simpa using hp

theorem trodAll_stays (hl : laidOutB P = true) {W W' : World} {sp' : Nat → Bool} (hb : Below W.heap.size W W') :
    ∀ (ts : List TypeId), (∀ t ∈ ts, P.readableRec t = true ∧ t < P.types.size) → ∀ (vs : List Value) (ds : List (DataW H)) (ps : List MemPlace), DataW.TrodAll enc P W 0 (fun _ => true) true ts vs ds ps →
    (∀ p ∈ ps, p.block < W.heap.size) → (∀ p ∈ ps, sp' p.block = true) → DataW.TrodAll enc P W' 0 sp' true ts vs ds ps := by
  intro ts
  induction ts with
  | nil =>
    intro _ vs ds ps h _ _
    obtain ⟨rfl, rfl, rfl⟩ := trodAll_nil h
    exact trodAll_mk0
  | cons t ts ih =>
    intro ht vs ds ps h hlt hs
    obtain ⟨v, vs', d, ds', p, q, rfl, rfl, rfl, h0, h1⟩ := trodAll_cons h
    refine ⟨p, q, ?_, ih (fun x hx => ht x (List.mem_cons_of_mem _ hx)) vs' ds' q h1 (fun x hx => hlt x (List.mem_append_right _ hx)) (fun x hx => hs x (List.mem_append_right _ hx)), rfl⟩
    obtain ⟨h2, h3⟩ := ht t (List.mem_cons_self ..)
    exact WideElems.Trod_stays hl h2 h3 h0 (fun x hx => hb.same (hlt x (List.mem_append_left _ hx))) (fun x hx => hs x (List.mem_append_left _ hx))

/-- The end of a law's row: it has returned true, and below the heap's old size nothing has turned. -/
theorem law_post (hl : laidOutB P = true) {f : Func} {s : ChangeSpec} {apart fresh handsOn again : Bool} {W W' : World} {args : Array Value} {ds gs : List (DataW H)} {before : List MemPlace} {tb : TypeId}
    (hv : s.vars = []) (hts : ∀ t ∈ f.params.toList, P.readableRec t = true ∧ t < P.types.size)
    (hW : DataW.Whole enc P f.params.toList s.vars apart W args.toList ds gs before)
    (hfn : s.fn H (ds ++ gs) = { results := [.lit (.bool true)], args := ds }) (hrt : f.resultTypes = #[tb]) (htb : P.underlying tb = some .bool)
    (hb : Below W.heap.size W W') : s.post enc P f apart fresh handsOn again W args (.bool true) W' := by
  have hlt : ∀ p ∈ before, p.block < W.heap.size := fun p hp => hW.lt p hp
  have hW2 := hW
  obtain ⟨p, q, hA, hV, rfl, hz, hn⟩ := hW
  rw [hv] at hV
  obtain ⟨rfl, rfl⟩ := trodVars_none hV
  refine post_of_below (pa := p) (pv := []) hW2 ?_ ?_ ?_ (by simp) hb ?_
  · intro b sp hd
    rw [hfn, hrt]
    exact trodAll_mk1 (shut_bool htb true)
  · intro sp hsp
    rw [hfn]
    exact trodAll_stays hl hb _ hts _ _ _ hA (fun x hx => hlt x (by simpa using hx)) (fun x hx => hsp x (by simpa using hx))
  · intro sp hsp
    rw [hfn, hv]
    rfl
  · exact ok_one hrt rfl (okWide_bool_mk htb true)
end
end Go.Proofs.Ytaihafoopoaahaa
