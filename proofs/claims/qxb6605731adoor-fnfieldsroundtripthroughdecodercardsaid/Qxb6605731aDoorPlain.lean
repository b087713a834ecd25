/- The plain law of varints: what the decoder reads, told by the first byte under 128. No Go in sight. -/
import Derived.Lib.Varint
import Derived.Lib.VarintDec
namespace Go.Proofs.Qxb6605731aDoor.Plain
open Go

/-- The number that seven-bit groups spell, the least first. -/
def val : List UInt8 → Nat
  | [] => 0
  | b :: r => b.toNat % 128 + 128 * val r

/-- k is the place of the first byte under 128. -/
def Hit (l : List UInt8) (k : Nat) : Prop := k < l.length ∧ (∀ j, j < k → 128 ≤ (l.getD j 0).toNat) ∧ (l.getD k 0).toNat < 128

theorem hit_cons {b : UInt8} {r : List UInt8} {k : Nat} (h : Hit (b :: r) (k + 1)) : 128 ≤ b.toNat ∧ Hit r k := by
  obtain ⟨h1, h2, h3⟩ := h
  refine ⟨by simpa using h2 0 (by omega), by simpa using h1, fun j hj => by simpa using h2 (j + 1) (by omega), by simpa using h3⟩

theorem pow_step (i : Nat) : 2 ^ (7 * (i + 1)) = 128 * 2 ^ (7 * i) := by
  rw [show 7 * (i + 1) = 7 + 7 * i from by omega, Nat.pow_add]

theorem from_hit : ∀ (l : List UInt8) (i acc k : Nat), Hit l k → i + k ≤ 9 → ¬ (i + k = 9 ∧ 1 < (l.getD k 0).toNat) → Lib.uvarintFrom i acc l = (acc + val (l.take (k + 1)) * 2 ^ (7 * i), ((i + k + 1 : Nat) : Int))
  | [], _, _, _, h, _, _ => by simp [Hit] at h
  | b :: r, i, acc, 0, h, h9, hno => by
    have hb : b.toNat < 128 := by simpa using h.2.2
    have hno' : ¬ (i = 9 ∧ 1 < b.toNat) := by simpa using hno
    simp only [Lib.uvarintFrom]
    rw [if_neg (by omega), if_pos hb, if_neg hno']
    simp [val, Nat.mod_eq_of_lt hb]
  | b :: r, i, acc, k + 1, h, h9, hno => by
    obtain ⟨hb, hr⟩ := hit_cons h
    have ih := from_hit r (i + 1) (acc + b.toNat % 128 * 2 ^ (7 * i)) k hr (by omega) (by
      intro hc; apply hno; refine ⟨by omega, ?_⟩; simpa using hc.2)
    simp only [Lib.uvarintFrom]
    rw [if_neg (by omega), if_neg (by omega), ih, List.take_succ_cons, val, pow_step]
    refine Prod.ext ?_ ?_
    · show acc + b.toNat % 128 * 2 ^ (7 * i) + val (r.take (k + 1)) * (128 * 2 ^ (7 * i)) = acc + (b.toNat % 128 + 128 * val (r.take (k + 1))) * 2 ^ (7 * i)
      rw [Nat.add_mul, Nat.mul_comm 128 (val _), Nat.mul_assoc]; omega
    · show ((i + 1 + k + 1 : Nat) : Int) = ((i + (k + 1) + 1 : Nat) : Int)
      omega

theorem from_over : ∀ (l : List UInt8) (i acc k : Nat), Hit l k → i + k = 9 → 1 < (l.getD k 0).toNat → (Lib.uvarintFrom i acc l).2 ≤ 0
  | [], _, _, _, h, _, _ => by simp [Hit] at h
  | b :: r, i, acc, 0, h, h9, h1 => by
    have hb : b.toNat < 128 := by simpa using h.2.2
    have h1' : 1 < b.toNat := by simpa using h1
    simp only [Lib.uvarintFrom]
    rw [if_neg (by omega), if_pos hb, if_pos ⟨by omega, h1'⟩]
    show -((i : Int) + 1) ≤ 0
    omega
  | b :: r, i, acc, k + 1, h, h9, h1 => by
    obtain ⟨hb, hr⟩ := hit_cons h
    simp only [Lib.uvarintFrom]
    rw [if_neg (by omega), if_neg (by omega)]
    exact from_over r (i + 1) _ k hr (by omega) (by simpa using h1)

theorem from_miss : ∀ (l : List UInt8) (i acc : Nat), i ≤ 10 → (∀ j, j < l.length → i + j < 10 → 128 ≤ (l.getD j 0).toNat) → (Lib.uvarintFrom i acc l).2 ≤ 0
  | [], _, _, _, _ => by simp [Lib.uvarintFrom]
  | b :: r, i, acc, hi, h => by
    simp only [Lib.uvarintFrom]
    by_cases h10 : i = 10
    · rw [if_pos h10]; show -((i : Int) + 1) ≤ 0; omega
    · have hb : 128 ≤ b.toNat := by simpa using h 0 (by simp) (by omega)
      rw [if_neg h10, if_neg (by omega)]
      exact from_miss r (i + 1) _ (by omega) (fun j hj hj2 => by simpa using h (j + 1) (by simpa using hj) (by omega))

theorem find_hit (l : List UInt8) : ∀ m, (∃ k, k < m ∧ Hit l k) ∨ (∀ j, j < m → j < l.length → 128 ≤ (l.getD j 0).toNat)
  | 0 => .inr fun j hj => by omega
  | m + 1 => by
    rcases find_hit l m with ⟨k, hk, h⟩ | h
    · exact .inl ⟨k, by omega, h⟩
    · by_cases hm : m < l.length ∧ (l.getD m 0).toNat < 128
      · exact .inl ⟨m, by omega, hm.1, fun j hj => h j hj (by omega), hm.2⟩
      · refine .inr fun j hj hj2 => ?_
        by_cases e : j = m
        · subst e; omega
        · exact h j (by omega) hj2

theorem val_drop : ∀ (l : List UInt8) (t : Nat), val (l.drop t) ≤ val l
  | [], t => by simp
  | b :: r, 0 => by simp
  | b :: r, t + 1 => by
    rw [List.drop_succ_cons, val]
    have := val_drop r t
    omega
theorem val_back (l : List UInt8) (q : Nat) (h : q < l.length) : val (l.drop q) = (l.getD q 0).toNat % 128 + 128 * val (l.drop (q + 1)) := by
  rw [List.drop_eq_getElem_cons h, val]; simp [List.getD, h]
theorem val_lt : ∀ (l : List UInt8), val l < 128 ^ l.length
  | [] => by simp [val]
  | b :: r => by
    have := val_lt r
    rw [List.length_cons, Nat.pow_succ, val]
    omega
theorem val_snoc : ∀ (l : List UInt8) (b : UInt8), val (l ++ [b]) = val l + b.toNat % 128 * 128 ^ l.length
  | [], b => by simp [val]
  | a :: r, b => by
    rw [List.cons_append, val, val_snoc r b, val, List.length_cons, Nat.pow_succ]
    rw [Nat.mul_add, Nat.mul_comm (128 ^ r.length) 128, ← Nat.mul_assoc, ← Nat.mul_assoc, Nat.mul_comm 128 (b.toNat % 128)]
    omega

theorem take_step (l : List UInt8) (k : Nat) (h : k < l.length) : l.take (k + 1) = l.take k ++ [l.getD k 0] := by
  rw [List.take_succ_eq_append_getElem h]; simp [List.getD, h]

/-- What the header spells is a uint64. -/
theorem val_hit (l : List UInt8) (k : Nat) (h : Hit l k) (h9 : k ≤ 9) (hno : ¬ (k = 9 ∧ 1 < (l.getD k 0).toNat)) : val (l.take (k + 1)) < 18446744073709551616 := by
  by_cases hk : k = 9
  · subst hk
    have h1 : (l.getD 9 0).toNat ≤ 1 := by omega
    have h2 := val_lt (l.take 9)
    have e : (l.take 9).length = 9 := by have := h.1; simp; omega
    rw [take_step l 9 h.1, val_snoc, e]
    rw [e] at h2
    have e2 : (128 : Nat) ^ 9 = 9223372036854775808 := by decide
    rw [e2] at h2 ⊢
    have h3 : (l.getD 9 0).toNat % 128 ≤ 1 := by omega
    have := Nat.mul_le_mul_right 9223372036854775808 h3
    omega
  · have h2 := val_lt (l.take (k + 1))
    have e : (l.take (k + 1)).length = k + 1 := by have := h.1; simp; omega
    rw [e] at h2
    have h3 : (128 : Nat) ^ (k + 1) ≤ 128 ^ 9 := Nat.pow_le_pow_right (by decide) (by omega)
    have e2 : (128 : Nat) ^ 9 = 9223372036854775808 := by decide
    omega
end Go.Proofs.Qxb6605731aDoor.Plain
