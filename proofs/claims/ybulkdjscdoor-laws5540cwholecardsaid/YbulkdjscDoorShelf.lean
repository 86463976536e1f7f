/-
  The contract of bits.Len64 at this dump: laid by the kit's lay-shelf.mjs and lay-plain.mjs.
-/
import Derived.Shelf.Strconv.Itoa0
import Derived.Test.YbulkdjscDoorProg
namespace Go.Proofs
open Go.Shelf
def Ybad.lays129_ren : Go.Shelf.Ren := ⟨fun | 129 => 8 | n => n, fun | 53 => 23 | 3 => 3 | 4 => 4 | 46 => 32 | 5 => 5 | 9 => 9 | n => n, fun | n => n⟩
theorem Ybad.lays129 : Go.Proofs.Lays.n129 Ybad.prog Ybad.lays129_ren := {
  mixed := by kernel_rfl
  f129 := Ybad.func8.trans (congrArg some (by kernel_rfl))
  t3 := Ybad.underlying3
  a3 := Ybad.isAgg3
  z3 := Ybad.sizeOf3
  v3 := Ybad.zeroValue3
  t4 := Ybad.underlying4
  a4 := Ybad.isAgg4
  z4 := Ybad.sizeOf4
  v4 := Ybad.zeroValue4
  t5 := Ybad.underlying5
  a5 := Ybad.isAgg5
  z5 := Ybad.sizeOf5
  v5 := Ybad.zeroValue5
  t9 := Ybad.underlying9
  a9 := Ybad.isAgg9
  z9 := Ybad.sizeOf9
  v9 := Ybad.zeroValue9
  t46 := Ybad.underlying32
  a46 := Ybad.isAgg32
  z46 := Ybad.sizeOf32
  v46 := Ybad.zeroValue32
  t53 := Ybad.underlying23
  a53 := Ybad.isAgg23
  z53 := Ybad.sizeOf23
  v53 := Ybad.zeroValue23 }
/-- bits.Len64: "Len64 returns the minimum number of bits required to represent x; the result is 0 for x == 0.": IT RETURNS 'Lib.bitLen x'; the world is as it was. ('h0', 'h1': x is a uint64.) (LAID: no walk: one application.) -/
theorem Ybad.bits_Len64 (x : Int) (w : World) (h0 : 0 ≤ x) (h1 : x ≤ 18446744073709551615) :
    Calls Ybad.prog 8 #[.int .u64 x] w fun e w' => e = .returned (.int .i64 (Lib.bitLen x.toNat)) ∧ w' = w := Any.bits_Len64 Ybad.lays129 x w h0 h1
end Go.Proofs
