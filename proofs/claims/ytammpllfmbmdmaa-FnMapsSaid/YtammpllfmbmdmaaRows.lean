/-
  No cell of these rows narrows 'for every input' (looked for: loops, veiled, ifaces, maps, wideKeys, modest, calm, conditions, laid).
  DERIVED. THE GIVEN ROWS OF THIS SEAT. 7 by the template 'for every input the law returns true; each argument reads behind the call as it read before'; 0 by the template 'total and deterministic' (their statements: YtammpllfmbmdmaaTotals.lean).
  GIVEN WITH THE SEED: the statements are not yours to turn. If you find one false, say at which input.
  Laid BY PROGRAM, IN A SANDBOX (cutbox-rows.mjs): the forced cells as the released guide's own fill.sh prints them over the translation 59ce0b18f0df05e6… (all of the seat's roots in one cut). By AI agents, Wed Nov 11 2026. No macro, syntax, notation, axiom, sorry.
-/
import Derived.Test.YtammpllfmbmdmaaChecked
import GoSem.Claim
import GoSem.ClaimJoined
import GoSem.ClaimMapViews
import Derived.JoinedTies
import Derived.KernelRfl
namespace Go.Proofs.Ytammpllfmbmdmaa
/- THE CELL 'sum', in the pinned program and in every row, IS THE sha256 OF THE DUMP (.gsa) THAT YtammpllfmbmdmaaProg.lean LOADS. Nothing in Lean hashes anything: it is a label: what it is worth is what the hold of that sum in a sandbox is worth. -/
noncomputable def Try.pinned : Pinned := { name := "ytammpllfmbmdmaa", sum := "59ce0b18f0df05e63bf6035b257558399ce577b374120053a51062d04c0f6464", checked := Try.checked }
namespace Rows
def none {H : Type} : Left H := { results := [], args := [] }

/-- 'laws.FnGroups': WHATEVER THE INPUT: true; the input reads as it did. -/
def fnGroupsSpec : ChangeSpec := { name := "fnGroups", fn := fun _ => fun
  | [d] => { results := [.lit (.bool true)], args := [d] }
  | _ => none }
def fnGroupsRow : OpenClaim := { program := "ytammpllfmbmdmaa", sum := "59ce0b18f0df05e63bf6035b257558399ce577b374120053a51062d04c0f6464", func := "opaparts/laws.FnGroups", spec := "fnGroups", unfollowed := true, recurses := true, apart := false }
def FnGroupsSaid : Prop := fnGroupsRow.holds Try.pinned (OpenSpec.ofChange fnGroupsSpec)

/-- ITS FALSE NEIGHBOUR: 'it returns false'. Refute it at one input. -/
def fnGroupsWrong : ChangeSpec := { name := "fnGroups", fn := fun _ => fun
  | [d] => { results := [.lit (.bool false)], args := [d] }
  | _ => none }
def FnGroupsWrongFalsely : Prop := fnGroupsRow.holds Try.pinned (OpenSpec.ofChange fnGroupsWrong)

/-- 'laws.FnQueue': WHATEVER THE INPUT: true; the input reads as it did. -/
def fnQueueSpec : ChangeSpec := { name := "fnQueue", fn := fun _ => fun
  | [d1, d2] => { results := [.lit (.bool true)], args := [d1, d2] }
  | _ => none }
def fnQueueRow : OpenClaim := { program := "ytammpllfmbmdmaa", sum := "59ce0b18f0df05e63bf6035b257558399ce577b374120053a51062d04c0f6464", func := "opaparts/laws.FnQueue", spec := "fnQueue", unfollowed := true, recurses := true, apart := false }
def FnQueueSaid : Prop := fnQueueRow.holds Try.pinned (OpenSpec.ofChange fnQueueSpec)

/-- ITS FALSE NEIGHBOUR: 'it returns false'. Refute it at one input. -/
def fnQueueWrong : ChangeSpec := { name := "fnQueue", fn := fun _ => fun
  | [d1, d2] => { results := [.lit (.bool false)], args := [d1, d2] }
  | _ => none }
def FnQueueWrongFalsely : Prop := fnQueueRow.holds Try.pinned (OpenSpec.ofChange fnQueueWrong)

/-- 'laws.FnStack': WHATEVER THE INPUT: true; the input reads as it did. -/
def fnStackSpec : ChangeSpec := { name := "fnStack", fn := fun _ => fun
  | [d] => { results := [.lit (.bool true)], args := [d] }
  | _ => none }
def fnStackRow : OpenClaim := { program := "ytammpllfmbmdmaa", sum := "59ce0b18f0df05e63bf6035b257558399ce577b374120053a51062d04c0f6464", func := "opaparts/laws.FnStack", spec := "fnStack", unfollowed := true, recurses := true, apart := false }
def FnStackSaid : Prop := fnStackRow.holds Try.pinned (OpenSpec.ofChange fnStackSpec)

/-- ITS FALSE NEIGHBOUR: 'it returns false'. Refute it at one input. -/
def fnStackWrong : ChangeSpec := { name := "fnStack", fn := fun _ => fun
  | [d] => { results := [.lit (.bool false)], args := [d] }
  | _ => none }
def FnStackWrongFalsely : Prop := fnStackRow.holds Try.pinned (OpenSpec.ofChange fnStackWrong)

/-- 'laws.FnBitsOf': WHATEVER THE INPUT: true; the input reads as it did. -/
def fnBitsOfSpec : ChangeSpec := { name := "fnBitsOf", fn := fun _ => fun
  | [d] => { results := [.lit (.bool true)], args := [d] }
  | _ => none }
def fnBitsOfRow : OpenClaim := { program := "ytammpllfmbmdmaa", sum := "59ce0b18f0df05e63bf6035b257558399ce577b374120053a51062d04c0f6464", func := "opaparts/laws.FnBitsOf", spec := "fnBitsOf", unfollowed := true, recurses := true, apart := false }
def FnBitsOfSaid : Prop := fnBitsOfRow.holds Try.pinned (OpenSpec.ofChange fnBitsOfSpec)

/-- ITS FALSE NEIGHBOUR: 'it returns false'. Refute it at one input. -/
def fnBitsOfWrong : ChangeSpec := { name := "fnBitsOf", fn := fun _ => fun
  | [d] => { results := [.lit (.bool false)], args := [d] }
  | _ => none }
def FnBitsOfWrongFalsely : Prop := fnBitsOfRow.holds Try.pinned (OpenSpec.ofChange fnBitsOfWrong)

/-- 'laws.FnBits': WHATEVER THE INPUT: true; the input reads as it did. -/
def fnBitsSpec : ChangeSpec := { name := "fnBits", fn := fun _ => fun
  | [d] => { results := [.lit (.bool true)], args := [d] }
  | _ => none }
def fnBitsRow : OpenClaim := { program := "ytammpllfmbmdmaa", sum := "59ce0b18f0df05e63bf6035b257558399ce577b374120053a51062d04c0f6464", func := "opaparts/laws.FnBits", spec := "fnBits", unfollowed := true, recurses := true, apart := false }
def FnBitsSaid : Prop := fnBitsRow.holds Try.pinned (OpenSpec.ofChange fnBitsSpec)

/-- ITS FALSE NEIGHBOUR: 'it returns false'. Refute it at one input. -/
def fnBitsWrong : ChangeSpec := { name := "fnBits", fn := fun _ => fun
  | [d] => { results := [.lit (.bool false)], args := [d] }
  | _ => none }
def FnBitsWrongFalsely : Prop := fnBitsRow.holds Try.pinned (OpenSpec.ofChange fnBitsWrong)

/-- 'laws.FnMaps': WHATEVER THE INPUT: true; the input reads as it did. -/
def fnMapsSpec : ChangeSpec := { name := "fnMaps", fn := fun _ => fun
  | [d1, d2] => { results := [.lit (.bool true)], args := [d1, d2] }
  | _ => none }
def fnMapsRow : OpenClaim := { program := "ytammpllfmbmdmaa", sum := "59ce0b18f0df05e63bf6035b257558399ce577b374120053a51062d04c0f6464", func := "opaparts/laws.FnMaps", spec := "fnMaps", unfollowed := true, recurses := true, apart := false }
def FnMapsSaid : Prop := fnMapsRow.holds Try.pinned (OpenSpec.ofChange fnMapsSpec)

/-- ITS FALSE NEIGHBOUR: 'it returns false'. Refute it at one input. -/
def fnMapsWrong : ChangeSpec := { name := "fnMaps", fn := fun _ => fun
  | [d1, d2] => { results := [.lit (.bool false)], args := [d1, d2] }
  | _ => none }
def FnMapsWrongFalsely : Prop := fnMapsRow.holds Try.pinned (OpenSpec.ofChange fnMapsWrong)

/-- 'laws.FnMapsHash': WHATEVER THE INPUT: true; the input reads as it did. -/
def fnMapsHashSpec : ChangeSpec := { name := "fnMapsHash", fn := fun _ => fun
  | [d1, d2] => { results := [.lit (.bool true)], args := [d1, d2] }
  | _ => none }
def fnMapsHashRow : OpenClaim := { program := "ytammpllfmbmdmaa", sum := "59ce0b18f0df05e63bf6035b257558399ce577b374120053a51062d04c0f6464", func := "opaparts/laws.FnMapsHash", spec := "fnMapsHash", unfollowed := true, recurses := true, apart := false }
def FnMapsHashSaid : Prop := fnMapsHashRow.holds Try.pinned (OpenSpec.ofChange fnMapsHashSpec)

/-- ITS FALSE NEIGHBOUR: 'it returns false'. Refute it at one input. -/
def fnMapsHashWrong : ChangeSpec := { name := "fnMapsHash", fn := fun _ => fun
  | [d1, d2] => { results := [.lit (.bool false)], args := [d1, d2] }
  | _ => none }
def FnMapsHashWrongFalsely : Prop := fnMapsHashRow.holds Try.pinned (OpenSpec.ofChange fnMapsHashWrong)

/- THE SECOND FORM. 'bulk': how many values and letters a reading holds, each counted each time it is reached (what is shared counts as often as it is met; a slice's spare places count too). A statement '..UptoSaid' is the law's where the arguments, and the package variables that the reading takes, are together of bulk at most 1048576: NARROWER than '..Said'. Prove '..Said' where nothing that the law and all that it calls make is longer than what came in: it says more and counts as full. Else prove '..UptoSaid'. A law counts once. -/
mutual
def uptoBulk {H : Type} : DataW H → Nat
  | .lit (.string bytes) => bytes.length + 1
  | .lit _ => 1
  | .nil => 1
  | .ptr d => uptoBulk d + 1
  | .slice elems spare => uptoBulkAll elems + uptoBulkAll spare + 1
  | .agg parts => uptoBulkAll parts + 1
  | .iface _ d => uptoBulk d + 1
  | .map entries => uptoBulkEntries entries + 1
  | .held _ => 1
def uptoBulkAll {H : Type} : List (DataW H) → Nat
  | [] => 0
  | d :: r => uptoBulk d + uptoBulkAll r
def uptoBulkEntries {H : Type} : List (Lit × DataW H) → Nat
  | [] => 0
  | x :: r => uptoBulkEntry x + uptoBulkEntries r
def uptoBulkEntry {H : Type} : Lit × DataW H → Nat
  | (.string bytes, d) => bytes.length + uptoBulk d + 1
  | (_, d) => uptoBulk d + 1
 end
def uptoSmall : (H : Type) → List (DataW H) → Bool := fun _ ds => decide (uptoBulkAll ds ≤ 1048576)
def OpenSpec.upto (s : _root_.Go.ChangeSpec) : _root_.Go.OpenSpec := { _root_.Go.OpenSpec.ofChange s with cond := some uptoSmall }

/-- 'laws.FnGroups', WHERE WHAT IT READS IS OF BULK AT MOST 1048576: true; the input reads as it did. -/
def fnGroupsUptoRow : OpenClaim := { program := "ytammpllfmbmdmaa", sum := "59ce0b18f0df05e63bf6035b257558399ce577b374120053a51062d04c0f6464", func := "opaparts/laws.FnGroups", spec := "fnGroups", unfollowed := true, recurses := true, apart := false, narrowed := true }
def FnGroupsUptoSaid : Prop := fnGroupsUptoRow.holds Try.pinned (OpenSpec.upto fnGroupsSpec)

/-- 'laws.FnQueue', WHERE WHAT IT READS IS OF BULK AT MOST 1048576: true; the input reads as it did. -/
def fnQueueUptoRow : OpenClaim := { program := "ytammpllfmbmdmaa", sum := "59ce0b18f0df05e63bf6035b257558399ce577b374120053a51062d04c0f6464", func := "opaparts/laws.FnQueue", spec := "fnQueue", unfollowed := true, recurses := true, apart := false, narrowed := true }
def FnQueueUptoSaid : Prop := fnQueueUptoRow.holds Try.pinned (OpenSpec.upto fnQueueSpec)

/-- 'laws.FnStack', WHERE WHAT IT READS IS OF BULK AT MOST 1048576: true; the input reads as it did. -/
def fnStackUptoRow : OpenClaim := { program := "ytammpllfmbmdmaa", sum := "59ce0b18f0df05e63bf6035b257558399ce577b374120053a51062d04c0f6464", func := "opaparts/laws.FnStack", spec := "fnStack", unfollowed := true, recurses := true, apart := false, narrowed := true }
def FnStackUptoSaid : Prop := fnStackUptoRow.holds Try.pinned (OpenSpec.upto fnStackSpec)

/-- 'laws.FnBitsOf', WHERE WHAT IT READS IS OF BULK AT MOST 1048576: true; the input reads as it did. -/
def fnBitsOfUptoRow : OpenClaim := { program := "ytammpllfmbmdmaa", sum := "59ce0b18f0df05e63bf6035b257558399ce577b374120053a51062d04c0f6464", func := "opaparts/laws.FnBitsOf", spec := "fnBitsOf", unfollowed := true, recurses := true, apart := false, narrowed := true }
def FnBitsOfUptoSaid : Prop := fnBitsOfUptoRow.holds Try.pinned (OpenSpec.upto fnBitsOfSpec)

/-- 'laws.FnBits', WHERE WHAT IT READS IS OF BULK AT MOST 1048576: true; the input reads as it did. -/
def fnBitsUptoRow : OpenClaim := { program := "ytammpllfmbmdmaa", sum := "59ce0b18f0df05e63bf6035b257558399ce577b374120053a51062d04c0f6464", func := "opaparts/laws.FnBits", spec := "fnBits", unfollowed := true, recurses := true, apart := false, narrowed := true }
def FnBitsUptoSaid : Prop := fnBitsUptoRow.holds Try.pinned (OpenSpec.upto fnBitsSpec)

/-- 'laws.FnMaps', WHERE WHAT IT READS IS OF BULK AT MOST 1048576: true; the input reads as it did. -/
def fnMapsUptoRow : OpenClaim := { program := "ytammpllfmbmdmaa", sum := "59ce0b18f0df05e63bf6035b257558399ce577b374120053a51062d04c0f6464", func := "opaparts/laws.FnMaps", spec := "fnMaps", unfollowed := true, recurses := true, apart := false, narrowed := true }
def FnMapsUptoSaid : Prop := fnMapsUptoRow.holds Try.pinned (OpenSpec.upto fnMapsSpec)

/-- 'laws.FnMapsHash', WHERE WHAT IT READS IS OF BULK AT MOST 1048576: true; the input reads as it did. -/
def fnMapsHashUptoRow : OpenClaim := { program := "ytammpllfmbmdmaa", sum := "59ce0b18f0df05e63bf6035b257558399ce577b374120053a51062d04c0f6464", func := "opaparts/laws.FnMapsHash", spec := "fnMapsHash", unfollowed := true, recurses := true, apart := false, narrowed := true }
def FnMapsHashUptoSaid : Prop := fnMapsHashUptoRow.holds Try.pinned (OpenSpec.upto fnMapsHashSpec)

end Rows
end Go.Proofs.Ytammpllfmbmdmaa
