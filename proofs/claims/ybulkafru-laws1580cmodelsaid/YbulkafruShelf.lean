/-
  The shelf's contracts of encoding/binary at this dump, in plain words (written by the kit's lay-plain.mjs for this program).
-/
import Derived.Shelf.Bin.AppendUvarint
import Derived.Shelf.Bin.Uvarint
import Derived.Shelf.Bin.UvarintEmpty
import Derived.Test.YbulkafruProg
namespace Go.Proofs
open Go.Shelf Go.RowKit
def Yba.laysBin47_ren : Go.Shelf.Ren := ⟨fun | 47 => 9 | n => n, fun | 22 => 44 | 33 => 57 | 4 => 4 | 5 => 5 | 45 => 61 | n => n, fun | n => n⟩
theorem Yba.laysBin47 : Go.Proofs.LaysBin.n47 Yba.prog Yba.laysBin47_ren := {
  mixed := by kernel_rfl
  f47 := Yba.func9.trans (congrArg some (by kernel_rfl))
  t4 := Yba.underlying4
  a4 := Yba.isAgg4
  z4 := Yba.sizeOf4
  v4 := Yba.zeroValue4
  i4 := by kernel_rfl
  t5 := Yba.underlying5
  a5 := Yba.isAgg5
  z5 := Yba.sizeOf5
  v5 := Yba.zeroValue5
  i5 := by kernel_rfl
  t22 := Yba.underlying44
  a22 := Yba.isAgg44
  z22 := Yba.sizeOf44
  v22 := Yba.zeroValue44
  i22 := by kernel_rfl
  t33 := Yba.underlying57
  a33 := Yba.isAgg57
  z33 := Yba.sizeOf57
  v33 := Yba.zeroValue57
  i33 := by kernel_rfl
  t45 := Yba.underlying61
  a45 := Yba.isAgg61
  z45 := Yba.sizeOf61
  v45 := Yba.zeroValue61
  i45 := by kernel_rfl }
theorem Yba.binary_AppendUvarint (B n x : Nat) (hx : x < 18446744073709551616) (sv : Value) (xs : List Value) (w : World) (hown : w.ownsRow B 5 1 sv n xs) (hBw : B ≤ w.heap.size) (hlim : n + 10 ≤ 140737488355328) :
    Calls Yba.prog 9 #[sv, .int .u64 x] w fun e w' => ∃ v', e = .returned v' ∧ w'.ownsRow B 5 1 v' (n + (Lib.uvarint x).length) (xs ++ Lib.byteCells (Lib.uvarint x)) ∧ Below B w w' := Any.binary_AppendUvarint Yba.laysBin47 B n x hx sv xs w hown hBw hlim
def Yba.laysBin45_ren : Go.Shelf.Ren := ⟨fun | 45 => 11 | n => n, fun | 22 => 44 | 33 => 57 | 3 => 3 | 45 => 61 | 0 => 0 | 5 => 5 | 4 => 4 | n => n, fun | n => n⟩
theorem Yba.laysBin45 : Go.Proofs.LaysBin.n45 Yba.prog Yba.laysBin45_ren := {
  mixed := by kernel_rfl
  f45 := Yba.func11.trans (congrArg some (by kernel_rfl))
  t0 := Yba.underlying0
  a0 := Yba.isAgg0
  z0 := Yba.sizeOf0
  v0 := Yba.zeroValue0
  i0 := by kernel_rfl
  t3 := Yba.underlying3
  a3 := Yba.isAgg3
  z3 := Yba.sizeOf3
  v3 := Yba.zeroValue3
  i3 := by kernel_rfl
  t4 := Yba.underlying4
  a4 := Yba.isAgg4
  z4 := Yba.sizeOf4
  v4 := Yba.zeroValue4
  i4 := by kernel_rfl
  t5 := Yba.underlying5
  a5 := Yba.isAgg5
  z5 := Yba.sizeOf5
  v5 := Yba.zeroValue5
  i5 := by kernel_rfl
  t22 := Yba.underlying44
  a22 := Yba.isAgg44
  z22 := Yba.sizeOf44
  v22 := Yba.zeroValue44
  i22 := by kernel_rfl
  t33 := Yba.underlying57
  a33 := Yba.isAgg57
  z33 := Yba.sizeOf57
  v33 := Yba.zeroValue57
  i33 := by kernel_rfl
  t45 := Yba.underlying61
  a45 := Yba.isAgg61
  z45 := Yba.sizeOf61
  v45 := Yba.zeroValue61
  i45 := by kernel_rfl }
theorem Yba.binary_Uvarint (g o n c : Nat) (l : List UInt8) (w : World) (hl : l.length = n) (hcell : ∀ j (hj : j < l.length), w.cell? ⟨g, o + j, none⟩ = some (.int .u8 (l[j]).toNat)) :
    Calls Yba.prog 11 #[.slice (some ⟨g, o, none⟩) n c] w fun e w' => e = .returned (.tuple #[.int .u64 (Lib.uvarintDec l).1, .int .i64 (Lib.uvarintDec l).2]) ∧ w' = w := Any.binary_Uvarint Yba.laysBin45 g o n c l w hl hcell
theorem Yba.binary_Uvarint_empty (ao : Option Addr) (c : Nat) (w : World) :
    Calls Yba.prog 11 #[.slice ao 0 c] w fun e w' => e = .returned (.tuple #[.int .u64 (Lib.uvarintDec []).1, .int .i64 (Lib.uvarintDec []).2]) ∧ w' = w := Any.binary_Uvarint_empty Yba.laysBin45 ao c w
end Go.Proofs
