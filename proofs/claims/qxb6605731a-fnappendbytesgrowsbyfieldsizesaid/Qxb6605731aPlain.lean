/- The plain law of seven-bit groups: no Go in sight. -/
import Derived.Lib.Varint
import Derived.Lib.BitFns
namespace Go.Proofs.Qxb6605731a.Plain
open Go

/-- How many seven-bit groups x needs: the length of its varint. -/
def grp (x : Nat) : Nat := (Lib.uvarint x).length
theorem grp_small {x : Nat} (h : x < 128) : grp x = 1 := by unfold grp; rw [Lib.uvarint_small h]; rfl
theorem grp_big {x : Nat} (h : 128 ≤ x) : grp x = 1 + grp (x / 128) := by unfold grp; rw [Lib.uvarint_big h, List.length_cons]; omega
theorem grp_pos (x : Nat) : 1 ≤ grp x := Lib.uvarint_pos x
theorem grp_le {x : Nat} (h : x < 18446744073709551616) : grp x ≤ 10 := Lib.uvarint_length64 h

theorem or_one (x : Nat) (h : x ≠ 0) (hx : x < 2 ^ 64) : Lib.bitLen (x ||| 1) = Lib.bitLen x := by
  have h1 : (x ||| 1) < 2 ^ 64 := Nat.or_lt_two_pow hx (by decide)
  have h2 : (x ||| 1) ≠ 0 := by
    intro e
    have := Nat.left_le_or (n := x) (m := 1)
    omega
  have h3 : (x ||| 1) / 2 = x / 2 := by rw [Nat.or_div_two]; simp
  rw [Lib.bitLen_half _ h2 h1, Lib.bitLen_half _ h hx, h3]

theorem bitLen_pos (x : Nat) (h : x ≠ 0) (hx : x < 2 ^ 64) : 1 ≤ Lib.bitLen x := by
  rw [Lib.bitLen_half x h hx]; omega

theorem grp_bits : ∀ (f x : Nat), x < 128 ^ f → x ≠ 0 → x < 2 ^ 64 → (Lib.bitLen x + 6) / 7 = grp x
  | 0, x, h, h0, _ => by simp at h; omega
  | f + 1, x, h, h0, hx => by
    by_cases hs : x < 128
    · have h1 := bitLen_pos x h0 hx
      have h2 := Lib.bitLen_le x 7 (by decide) hs
      rw [grp_small hs]; omega
    · have e := Lib.bitLen_shift 7 x (by omega) hx
      have e7 : (2 : Nat) ^ 7 = 128 := by decide
      rw [e7] at e
      have hd : x / 128 < 128 ^ f := by rw [Nat.pow_succ] at h; exact Nat.div_lt_of_lt_mul (by rw [Nat.mul_comm]; exact h)
      have ih := grp_bits f (x / 128) hd (by omega) (by omega)
      rw [grp_big (by omega), ← ih, e]; omega

/-- What 'uvarintSize' reckons is the number of groups. -/
theorem size_grp (x : Nat) (hx : x < 18446744073709551616) : (Lib.bitLen (x ||| 1) + 6) / 7 = grp x := by
  by_cases h0 : x = 0
  · subst h0; rw [grp_small (by decide)]; decide
  · rw [or_one x h0 hx]
    exact grp_bits 10 x (Nat.lt_of_lt_of_le hx (by decide)) h0 hx
end Go.Proofs.Qxb6605731a.Plain
