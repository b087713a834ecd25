/- The contracts of 'uvarintSize', 'fieldSize' and the door 'ZZfieldSize'. -/
import Derived.Test.Qxb6605731aRows
import Derived.Test.Qxb6605731aShelf
import Derived.Test.Qxb6605731aPlain
import Derived.WalkKit
import Derived.ProofKit
import Derived.OpenShut
import Derived.Laws.BitsAllLaws
namespace Go.Proofs.Qxb6605731a
open Go.ChangeShapes Go.WideShapes Go.ChangeAt Go.RowKit
open Plain

theorem ret_int {k : IntKind} {a b : Int} (h : a = b) : Ending.returned (.int k a) = .returned (.int k b) := by rw [h]

theorem ret_bool {a b : Bool} (h : a = b) : Ending.returned (.bool a) = .returned (.bool b) := by rw [h]

theorem u64_nat (n : Int) : ∃ x : Nat, IntKind.u64.wrap n = (x : Int) ∧ x < 18446744073709551616 := by
  refine ⟨(IntKind.u64.wrap n).toNat, ?_, ?_⟩ <;> rw [IntKind.wrap_u64] <;> omega

/-- 'uvarintSize(n)', x being n as a uint64. -/
theorem us_any (n : Int) (x : Nat) (hx : IntKind.u64.wrap n = (x : Int)) (hlt : Hid (x < 18446744073709551616)) (w : World) :
    Calls Try.prog 13 #[.int .i64 n] w fun e w' => e = .returned (.int .i64 (grp x)) ∧ w' = w := by
  obtain ⟨y, hy⟩ : ∃ y : Nat, y = x ||| 1 := ⟨_, rfl⟩
  have hor : bits .or .u64 (x : Int) 1 = (y : Int) := by rw [hy]; exact u64_or_nat x 1 hlt.out (by decide)
  have hyl : y < 18446744073709551616 := by rw [hy]; exact Nat.or_lt_two_pow (n := 64) hlt.out (by decide)
  obtain ⟨b, hb⟩ : ∃ b : Nat, b = Lib.bitLen y := ⟨_, rfl⟩
  have hb64 : b ≤ 64 := by rw [hb]; exact Lib.bitLen_le y 64 (by decide) hyl
  have HG : Hid ((b + 6) / 7 = grp x) := by show _ = _; rw [hb, hy]; exact size_grp x hlt.out
  have HL : Hid (Calls Try.prog 15 #[.int .u64 (y : Int)] w fun e w' => e = .returned (.int .i64 b) ∧ w' = w) := by
    have := Try.bits_Len64 (y : Int) w (by omega) (by omega)
    rw [hb]; simp at this; exact this
  clear hy hyl hb
  go_enter Try.func13, Try.ntmps13
  go_wp2_with fail
  refine HL.out.mono ?_
  rintro e w1 ⟨rfl, rfl⟩
  go_wp2
  go_ret
  exact ⟨ret_int (by rw [← HG.out]; omega), rfl⟩

/-- 'fieldSize(n)': the sum wraps as an int does. -/
theorem fs_any (n : Int) (x : Nat) (hx : IntKind.u64.wrap n = (x : Int)) (hlt : Hid (x < 18446744073709551616)) (w : World) :
    Calls Try.prog 11 #[.int .i64 n] w fun e w' => e = .returned (.int .i64 (wrap64 (grp x + n))) ∧ w' = w := by
  have HX : Hid (IntKind.u64.wrap n = (x : Int)) := hx
  clear hx
  go_enter Try.func11, Try.ntmps11
  go_wp2_with (go_at_call 13; refine (us_any n x HX.out hlt _).mono ?_; rintro e w1 ⟨rfl, rfl⟩)
  go_ret
  exact ⟨rfl, rfl⟩

theorem zzfs_any (n : Int) (x : Nat) (hx : IntKind.u64.wrap n = (x : Int)) (hlt : Hid (x < 18446744073709551616)) (w : World) :
    Calls Try.prog 6 #[.int .i64 n] w fun e w' => e = .returned (.int .i64 (wrap64 (grp x + n))) ∧ w' = w := by
  have HX : Hid (IntKind.u64.wrap n = (x : Int)) := hx
  clear hx
  go_enter Try.func6, Try.ntmps6
  go_wp2_with (go_at_call 11; refine (fs_any n x HX.out hlt _).mono ?_; rintro e w1 ⟨rfl, rfl⟩)
  go_ret
  exact ⟨rfl, rfl⟩
end Go.Proofs.Qxb6605731a
