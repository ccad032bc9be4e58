/- Contracts of math/bits.Len, sort.xorshift.Next and sort.nextPowerOfTwo at this program, laid by the kit's tool (lay-plain.mjs). No condition beyond the ranges. -/
import Derived.Shelf.Small.Bits
import Derived.Shelf.Strconv.Itoa0
import Derived.Ground.GgsProg
import Derived.Shelf.SlSortFunc.Xorshift
import Derived.Test.YtaihafoopoaahaaProg
namespace Go.Proofs
open Go.Shelf
def Try.lays128_ren : Go.Shelf.Ren := ⟨fun | 128 => 32 | n => n, fun | 51 => 63 | 3 => 3 | 4 => 4 | 46 => 58 | 5 => 5 | 9 => 9 | n => n, fun | n => n⟩
theorem Try.lays128 : Go.Proofs.Lays.n128 Try.prog Try.lays128_ren := {
  mixed := by kernel_rfl
  f128 := Try.func32.trans (congrArg some (by kernel_rfl))
  t3 := Try.underlying3
  a3 := Try.isAgg3
  z3 := Try.sizeOf3
  v3 := Try.zeroValue3
  t4 := Try.underlying4
  a4 := Try.isAgg4
  z4 := Try.sizeOf4
  v4 := Try.zeroValue4
  t5 := Try.underlying5
  a5 := Try.isAgg5
  z5 := Try.sizeOf5
  v5 := Try.zeroValue5
  t9 := Try.underlying9
  a9 := Try.isAgg9
  z9 := Try.sizeOf9
  v9 := Try.zeroValue9
  t46 := Try.underlying58
  a46 := Try.isAgg58
  z46 := Try.sizeOf58
  v46 := Try.zeroValue58
  t51 := Try.underlying63
  a51 := Try.isAgg63
  z51 := Try.sizeOf63
  v51 := Try.zeroValue63 }
theorem Try.bits_Len32 (x : Int) (w : World) (h0 : 0 ≤ x) (h1 : x ≤ 4294967295) :
    Calls Try.prog 32 #[.int .u32 x] w fun e w' => e = .returned (.int .i64 (Lib.bitLen x.toNat)) ∧ w' = w := Any.bits_Len32 Try.lays128 x w h0 h1
def Try.lays125_ren : Go.Shelf.Ren := ⟨fun | 125 => 28 | 128 => 32 | 129 => 33 | n => n, fun | 46 => 58 | 3 => 3 | 51 => 63 | 53 => 65 | 4 => 4 | 5 => 5 | 9 => 9 | n => n, fun | n => n⟩
theorem Try.lays125 : Go.Proofs.Lays.n125 Try.prog Try.lays125_ren := {
  mixed := by kernel_rfl
  f125 := Try.func28.trans (congrArg some (by kernel_rfl))
  f128 := Try.func32.trans (congrArg some (by kernel_rfl))
  f129 := Try.func33.trans (congrArg some (by kernel_rfl))
  t3 := Try.underlying3
  a3 := Try.isAgg3
  z3 := Try.sizeOf3
  v3 := Try.zeroValue3
  t4 := Try.underlying4
  a4 := Try.isAgg4
  z4 := Try.sizeOf4
  v4 := Try.zeroValue4
  t5 := Try.underlying5
  a5 := Try.isAgg5
  z5 := Try.sizeOf5
  v5 := Try.zeroValue5
  t9 := Try.underlying9
  a9 := Try.isAgg9
  z9 := Try.sizeOf9
  v9 := Try.zeroValue9
  t46 := Try.underlying58
  a46 := Try.isAgg58
  z46 := Try.sizeOf58
  v46 := Try.zeroValue58
  t51 := Try.underlying63
  a51 := Try.isAgg63
  z51 := Try.sizeOf63
  v51 := Try.zeroValue63
  t53 := Try.underlying65
  a53 := Try.isAgg65
  z53 := Try.sizeOf65
  v53 := Try.zeroValue65 }
theorem Try.bits_Len (x : Int) (w : World) (h0 : 0 ≤ x) (h1 : x ≤ 18446744073709551615) :
    Calls Try.prog 28 #[.int .u64 x] w fun e w' => e = .returned (.int .i64 (Lib.bitLen x.toNat)) ∧ w' = w := Any.bits_Len Try.lays125 x w h0 h1
def Try.lays129_ren : Go.Shelf.Ren := ⟨fun | 129 => 33 | n => n, fun | 53 => 65 | 3 => 3 | 4 => 4 | 46 => 58 | 5 => 5 | 9 => 9 | n => n, fun | n => n⟩
theorem Try.lays129 : Go.Proofs.Lays.n129 Try.prog Try.lays129_ren := {
  mixed := by kernel_rfl
  f129 := Try.func33.trans (congrArg some (by kernel_rfl))
  t3 := Try.underlying3
  a3 := Try.isAgg3
  z3 := Try.sizeOf3
  v3 := Try.zeroValue3
  t4 := Try.underlying4
  a4 := Try.isAgg4
  z4 := Try.sizeOf4
  v4 := Try.zeroValue4
  t5 := Try.underlying5
  a5 := Try.isAgg5
  z5 := Try.sizeOf5
  v5 := Try.zeroValue5
  t9 := Try.underlying9
  a9 := Try.isAgg9
  z9 := Try.sizeOf9
  v9 := Try.zeroValue9
  t46 := Try.underlying58
  a46 := Try.isAgg58
  z46 := Try.sizeOf58
  v46 := Try.zeroValue58
  t53 := Try.underlying65
  a53 := Try.isAgg65
  z53 := Try.sizeOf65
  v53 := Try.zeroValue65 }
theorem Try.bits_Len64 (x : Int) (w : World) (h0 : 0 ≤ x) (h1 : x ≤ 18446744073709551615) :
    Calls Try.prog 33 #[.int .u64 x] w fun e w' => e = .returned (.int .i64 (Lib.bitLen x.toNat)) ∧ w' = w := Any.bits_Len64 Try.lays129 x w h0 h1
def Try.laysGg36_ren : Go.Shelf.Ren := ⟨fun | 36 => 44 | n => n, fun | 66 => 81 | 51 => 65 | 0 => 0 | 60 => 75 | 41 => 58 | n => n, fun | n => n⟩
theorem Try.laysGg36 : Go.Proofs.LaysGg.n36 Try.prog Try.laysGg36_ren := {
  mixed := by kernel_rfl
  f36 := Try.func44.trans (congrArg some (by kernel_rfl))
  t0 := Try.underlying0
  a0 := Try.isAgg0
  z0 := Try.sizeOf0
  v0 := Try.zeroValue0
  i0 := by kernel_rfl
  t41 := Try.underlying58
  a41 := Try.isAgg58
  z41 := Try.sizeOf58
  v41 := Try.zeroValue58
  i41 := by kernel_rfl
  t51 := Try.underlying65
  a51 := Try.isAgg65
  z51 := Try.sizeOf65
  v51 := Try.zeroValue65
  i51 := by kernel_rfl
  t60 := Try.underlying75
  a60 := Try.isAgg75
  z60 := Try.sizeOf75
  v60 := Try.zeroValue75
  i60 := by kernel_rfl
  t66 := Try.underlying81
  a66 := Try.isAgg81
  z66 := Try.sizeOf81
  v66 := Try.zeroValue81
  i66 := by kernel_rfl }
open Go.RowKit Go.Lib Go.Sort in
theorem Try.xorshift_Next (rb ro X : Nat) (hX : X < 18446744073709551616) (w : World) (hc : w.cell? ⟨rb, ro, none⟩ = some (.int .u64 X)) (hf : w.frozen? ⟨rb, ro, none⟩ = false) :
    Calls Try.prog 44 #[.pointer (some ⟨rb, ro, none⟩)] w fun e w' => e = .returned (.int .u64 (xorNextN X : Nat)) ∧ w' = (w.setCell ⟨rb, ro, none⟩ (.int .u64 (xorNextN X : Nat))).drewN 3 := Any.xorshift_Next Try.laysGg36 rb ro X hX w hc hf
def Try.laysGg35_ren : Go.Shelf.Ren := ⟨fun | 35 => 43 | 13 => 28 | 24 => 32 | 25 => 33 | n => n, fun | 3 => 3 | 41 => 58 | 49 => 63 | 51 => 65 | 4 => 4 | 5 => 5 | 9 => 9 | n => n, fun | n => n⟩
theorem Try.laysGg35 : Go.Proofs.LaysGg.n35 Try.prog Try.laysGg35_ren := {
  mixed := by kernel_rfl
  f13 := Try.func28.trans (congrArg some (by kernel_rfl))
  f24 := Try.func32.trans (congrArg some (by kernel_rfl))
  f25 := Try.func33.trans (congrArg some (by kernel_rfl))
  f35 := Try.func43.trans (congrArg some (by kernel_rfl))
  t3 := Try.underlying3
  a3 := Try.isAgg3
  z3 := Try.sizeOf3
  v3 := Try.zeroValue3
  i3 := by kernel_rfl
  t4 := Try.underlying4
  a4 := Try.isAgg4
  z4 := Try.sizeOf4
  v4 := Try.zeroValue4
  i4 := by kernel_rfl
  t5 := Try.underlying5
  a5 := Try.isAgg5
  z5 := Try.sizeOf5
  v5 := Try.zeroValue5
  i5 := by kernel_rfl
  t9 := Try.underlying9
  a9 := Try.isAgg9
  z9 := Try.sizeOf9
  v9 := Try.zeroValue9
  i9 := by kernel_rfl
  t41 := Try.underlying58
  a41 := Try.isAgg58
  z41 := Try.sizeOf58
  v41 := Try.zeroValue58
  i41 := by kernel_rfl
  t49 := Try.underlying63
  a49 := Try.isAgg63
  z49 := Try.sizeOf63
  v49 := Try.zeroValue63
  i49 := by kernel_rfl
  t51 := Try.underlying65
  a51 := Try.isAgg65
  z51 := Try.sizeOf65
  v51 := Try.zeroValue65
  i51 := by kernel_rfl }
open Go.RowKit Go.Lib Go.Sort in
theorem Try.nextPowerOfTwo (n : Nat) (hn : n < 4611686018427387904) (w : World) :
    Calls Try.prog 43 #[.int .i64 n] w fun e w' => e = .returned (.int .u64 ((1 <<< bitsLen n : Nat) : Int)) ∧ w' = w := Any.nextPowerOfTwo Try.laysGg35 n hn w
end Go.Proofs
