/-
  encoding/binary.AppendUvarint's contract of the shelf, laid at this program in plain words (by the kit's tool lay-plain.mjs).
-/
import Derived.Test.Qxb6614825aProg
import Derived.Shelf.Bin.AppendUvarint
set_option maxRecDepth 100000
namespace Go.Proofs
open Go.Shelf
def Try.lays47_ren : Go.Shelf.Ren := ⟨fun | 47 => 14 | n => n, fun | 22 => 22 | 33 => 31 | 4 => 4 | 5 => 5 | 45 => 35 | n => n, fun | n => n⟩
theorem Try.lays47 : Go.Proofs.LaysBin.n47 Try.prog Try.lays47_ren := {
  mixed := by kernel_rfl
  f47 := Try.func14.trans (congrArg some (by kernel_rfl))
  t4 := Try.underlying4
  a4 := Try.isAgg4
  z4 := Try.sizeOf4
  v4 := Try.zeroValue4
  i4 := by kernel_rfl
  t5 := Try.underlying5
  a5 := Try.isAgg5
  z5 := Try.sizeOf5
  v5 := Try.zeroValue5
  i5 := by kernel_rfl
  t22 := Try.underlying22
  a22 := Try.isAgg22
  z22 := Try.sizeOf22
  v22 := Try.zeroValue22
  i22 := by kernel_rfl
  t33 := Try.underlying31
  a33 := Try.isAgg31
  z33 := Try.sizeOf31
  v33 := Try.zeroValue31
  i33 := by kernel_rfl
  t45 := Try.underlying35
  a45 := Try.isAgg35
  z45 := Try.sizeOf35
  v45 := Try.zeroValue35
  i45 := by kernel_rfl }
end Go.Proofs
