/- The shelf's contracts of encoding/binary.AppendUvarint and Uvarint laid at this program, in plain words (written by the kit's lay-plain.mjs). -/
import Derived.Shelf.Bin.AppendUvarint
import Derived.Shelf.Bin.Uvarint
import Derived.Test.Qxb6605731aDoorProg
namespace Go.Proofs
open Go.Shelf
def Tryd.laysBin47_ren : Go.Shelf.Ren := ⟨fun | 47 => 21 | n => n, fun | 22 => 24 | 33 => 44 | 4 => 4 | 5 => 5 | 45 => 45 | n => n, fun | n => n⟩
theorem Tryd.laysBin47 : Go.Proofs.LaysBin.n47 Tryd.prog Tryd.laysBin47_ren := {
  mixed := by kernel_rfl
  f47 := Tryd.func21.trans (congrArg some (by kernel_rfl))
  t4 := Tryd.underlying4
  a4 := Tryd.isAgg4
  z4 := Tryd.sizeOf4
  v4 := Tryd.zeroValue4
  i4 := by kernel_rfl
  t5 := Tryd.underlying5
  a5 := Tryd.isAgg5
  z5 := Tryd.sizeOf5
  v5 := Tryd.zeroValue5
  i5 := by kernel_rfl
  t22 := Tryd.underlying24
  a22 := Tryd.isAgg24
  z22 := Tryd.sizeOf24
  v22 := Tryd.zeroValue24
  i22 := by kernel_rfl
  t33 := Tryd.underlying44
  a33 := Tryd.isAgg44
  z33 := Tryd.sizeOf44
  v33 := Tryd.zeroValue44
  i33 := by kernel_rfl
  t45 := Tryd.underlying45
  a45 := Tryd.isAgg45
  z45 := Tryd.sizeOf45
  v45 := Tryd.zeroValue45
  i45 := by kernel_rfl }
open Go.RowKit in
theorem Tryd.binary_AppendUvarint (B n x : Nat) (hx : x < 18446744073709551616) (sv : Value) (xs : List Value) (w : World) (hown : w.ownsRow B 5 1 sv n xs) (hBw : B ≤ w.heap.size) (hlim : n + 10 ≤ 140737488355328) :
    Calls Tryd.prog 21 #[sv, .int .u64 x] w fun e w' => ∃ v', e = .returned v' ∧ w'.ownsRow B 5 1 v' (n + (Lib.uvarint x).length) (xs ++ Lib.byteCells (Lib.uvarint x)) ∧ Below B w w' := Any.binary_AppendUvarint Tryd.laysBin47 B n x hx sv xs w hown hBw hlim
def Tryd.laysBin45_ren : Go.Shelf.Ren := ⟨fun | 45 => 22 | n => n, fun | 22 => 24 | 33 => 44 | 3 => 3 | 45 => 45 | 0 => 0 | 5 => 5 | 4 => 4 | n => n, fun | n => n⟩
theorem Tryd.laysBin45 : Go.Proofs.LaysBin.n45 Tryd.prog Tryd.laysBin45_ren := {
  mixed := by kernel_rfl
  f45 := Tryd.func22.trans (congrArg some (by kernel_rfl))
  t0 := Tryd.underlying0
  a0 := Tryd.isAgg0
  z0 := Tryd.sizeOf0
  v0 := Tryd.zeroValue0
  i0 := by kernel_rfl
  t3 := Tryd.underlying3
  a3 := Tryd.isAgg3
  z3 := Tryd.sizeOf3
  v3 := Tryd.zeroValue3
  i3 := by kernel_rfl
  t4 := Tryd.underlying4
  a4 := Tryd.isAgg4
  z4 := Tryd.sizeOf4
  v4 := Tryd.zeroValue4
  i4 := by kernel_rfl
  t5 := Tryd.underlying5
  a5 := Tryd.isAgg5
  z5 := Tryd.sizeOf5
  v5 := Tryd.zeroValue5
  i5 := by kernel_rfl
  t22 := Tryd.underlying24
  a22 := Tryd.isAgg24
  z22 := Tryd.sizeOf24
  v22 := Tryd.zeroValue24
  i22 := by kernel_rfl
  t33 := Tryd.underlying44
  a33 := Tryd.isAgg44
  z33 := Tryd.sizeOf44
  v33 := Tryd.zeroValue44
  i33 := by kernel_rfl
  t45 := Tryd.underlying45
  a45 := Tryd.isAgg45
  z45 := Tryd.sizeOf45
  v45 := Tryd.zeroValue45
  i45 := by kernel_rfl }
open Go.RowKit in
theorem Tryd.binary_Uvarint (g o n c : Nat) (l : List UInt8) (w : World) (hl : l.length = n) (hcell : ∀ j (hj : j < l.length), w.cell? ⟨g, o + j, none⟩ = some (.int .u8 (l[j]).toNat)) :
    Calls Tryd.prog 22 #[.slice (some ⟨g, o, none⟩) n c] w fun e w' => e = .returned (.tuple #[.int .u64 (Lib.uvarintDec l).1, .int .i64 (Lib.uvarintDec l).2]) ∧ w' = w := Any.binary_Uvarint Tryd.laysBin45 g o n c l w hl hcell
end Go.Proofs
