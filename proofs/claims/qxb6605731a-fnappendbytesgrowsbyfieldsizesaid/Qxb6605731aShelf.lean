/- The shelf's contract of math/bits.Len64 laid at this program, in plain words (written by the kit's lay-plain.mjs). -/
import Derived.Shelf.Strconv.Itoa0
import Derived.Test.Qxb6605731aProg
namespace Go.Proofs
open Go.Shelf
def Try.lays129_ren : Go.Shelf.Ren := ⟨fun | 129 => 15 | n => n, fun | 53 => 22 | 3 => 3 | 4 => 4 | 46 => 23 | 5 => 5 | 9 => 9 | n => n, fun | n => n⟩
theorem Try.lays129 : Go.Proofs.Lays.n129 Try.prog Try.lays129_ren := {
  mixed := by kernel_rfl
  f129 := Try.func15.trans (congrArg some (by kernel_rfl))
  t3 := Try.underlying3
  a3 := Try.isAgg3
  z3 := Try.sizeOf3
  v3 := Try.zeroValue3
  t4 := Try.underlying4
  a4 := Try.isAgg4
  z4 := Try.sizeOf4
  v4 := Try.zeroValue4
  t5 := Try.underlying5
  a5 := Try.isAgg5
  z5 := Try.sizeOf5
  v5 := Try.zeroValue5
  t9 := Try.underlying9
  a9 := Try.isAgg9
  z9 := Try.sizeOf9
  v9 := Try.zeroValue9
  t46 := Try.underlying23
  a46 := Try.isAgg23
  z46 := Try.sizeOf23
  v46 := Try.zeroValue23
  t53 := Try.underlying22
  a53 := Try.isAgg22
  z53 := Try.sizeOf22
  v53 := Try.zeroValue22 }
theorem Try.bits_Len64 (x : Int) (w : World) (h0 : 0 ≤ x) (h1 : x ≤ 18446744073709551615) :
    Calls Try.prog 15 #[.int .u64 x] w fun e w' => e = .returned (.int .i64 (Lib.bitLen x.toNat)) ∧ w' = w := Any.bits_Len64 Try.lays129 x w h0 h1
end Go.Proofs
