/- Contracts of the library off the shelf, laid at this program: bits.Len64, binary.PutUvarint. Conditions: none. -/
import Derived.Shelf.Strconv.Itoa0
import Derived.Shelf.Bin.PutUvarint
import Derived.Test.YtegcplghgnafjaaGreatDoorProg
/- Contracts of the library off the shelf, laid at this program: bits.Len64, binary.PutUvarint. Conditions: none. -/
namespace Go.Proofs
open Go.Shelf
def Tryz.lays129_ren : Go.Shelf.Ren := ⟨fun | 129 => 69 | n => n, fun | 53 => 85 | 3 => 3 | 4 => 4 | 46 => 88 | 5 => 5 | 9 => 9 | n => n, fun | n => n⟩
theorem Tryz.lays129 : Go.Proofs.Lays.n129 Tryz.prog Tryz.lays129_ren := {
  mixed := by kernel_rfl
  f129 := Tryz.func69.trans (congrArg some (by kernel_rfl))
  t3 := Tryz.underlying3
  a3 := Tryz.isAgg3
  z3 := Tryz.sizeOf3
  v3 := Tryz.zeroValue3
  t4 := Tryz.underlying4
  a4 := Tryz.isAgg4
  z4 := Tryz.sizeOf4
  v4 := Tryz.zeroValue4
  t5 := Tryz.underlying5
  a5 := Tryz.isAgg5
  z5 := Tryz.sizeOf5
  v5 := Tryz.zeroValue5
  t9 := Tryz.underlying9
  a9 := Tryz.isAgg9
  z9 := Tryz.sizeOf9
  v9 := Tryz.zeroValue9
  t46 := Tryz.underlying88
  a46 := Tryz.isAgg88
  z46 := Tryz.sizeOf88
  v46 := Tryz.zeroValue88
  t53 := Tryz.underlying85
  a53 := Tryz.isAgg85
  z53 := Tryz.sizeOf85
  v53 := Tryz.zeroValue85 }
def Tryz.lays46_ren : Go.Shelf.Ren := ⟨fun | 46 => 111 | n => n, fun | 22 => 35 | 33 => 85 | 3 => 3 | 4 => 4 | 5 => 5 | 0 => 0 | 45 => 88 | n => n, fun | n => n⟩
theorem Tryz.lays46 : Go.Proofs.LaysBin.n46 Tryz.prog Tryz.lays46_ren := {
  mixed := by kernel_rfl
  f46 := Tryz.func111.trans (congrArg some (by kernel_rfl))
  t0 := Tryz.underlying0
  a0 := Tryz.isAgg0
  z0 := Tryz.sizeOf0
  v0 := Tryz.zeroValue0
  i0 := by kernel_rfl
  t3 := Tryz.underlying3
  a3 := Tryz.isAgg3
  z3 := Tryz.sizeOf3
  v3 := Tryz.zeroValue3
  i3 := by kernel_rfl
  t4 := Tryz.underlying4
  a4 := Tryz.isAgg4
  z4 := Tryz.sizeOf4
  v4 := Tryz.zeroValue4
  i4 := by kernel_rfl
  t5 := Tryz.underlying5
  a5 := Tryz.isAgg5
  z5 := Tryz.sizeOf5
  v5 := Tryz.zeroValue5
  i5 := by kernel_rfl
  t22 := Tryz.underlying35
  a22 := Tryz.isAgg35
  z22 := Tryz.sizeOf35
  v22 := Tryz.zeroValue35
  i22 := by kernel_rfl
  t33 := Tryz.underlying85
  a33 := Tryz.isAgg85
  z33 := Tryz.sizeOf85
  v33 := Tryz.zeroValue85
  i33 := by kernel_rfl
  t45 := Tryz.underlying88
  a45 := Tryz.isAgg88
  z45 := Tryz.sizeOf88
  v45 := Tryz.zeroValue88
  i45 := by kernel_rfl }
theorem Tryz.bits_Len64 (x : Int) (w : World) (h0 : 0 ≤ x) (h1 : x ≤ 18446744073709551615) : Calls Tryz.prog 69 #[.int .u64 x] w fun e w' => e = .returned (.int .i64 (Lib.bitLen x.toNat)) ∧ w' = w := Any.bits_Len64 Tryz.lays129 x w h0 h1
end Go.Proofs
