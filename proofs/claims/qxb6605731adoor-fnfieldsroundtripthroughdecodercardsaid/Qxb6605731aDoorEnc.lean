/- The plain law of fields written one behind another: each is its length as a varint, then its bytes. No Go in sight. -/
import Derived.Test.Qxb6605731aDoorPlain
namespace Go.Proofs.Qxb6605731aDoor.Plain
open Go

/-- One field behind what is there. -/
def framed (lb lp : List UInt8) : List UInt8 := lb ++ Lib.uvarint lp.length ++ lp
/-- All fields, one behind another. -/
def enc : List (List UInt8) → List UInt8
  | [] => []
  | l :: r => Lib.uvarint l.length ++ (l ++ enc r)

theorem enc_snoc : ∀ (L : List (List UInt8)) (l : List UInt8), enc (L ++ [l]) = framed (enc L) l
  | [], l => by simp [enc, framed]
  | a :: L, l => by
    rw [List.cons_append, enc, enc_snoc L l, enc]
    simp [framed, List.append_assoc]

theorem ltake_step (L : List (List UInt8)) (k : Nat) (h : k < L.length) : L.take (k + 1) = L.take k ++ [L.getD k []] := by
  rw [List.take_succ_eq_append_getElem h]; simp [List.getD, h]
theorem ldrop_step (L : List (List UInt8)) (k : Nat) (h : k < L.length) : L.drop k = L.getD k [] :: L.drop (k + 1) := by
  rw [List.drop_eq_getElem_cons h]; simp [List.getD, h]
theorem enc_take (L : List (List UInt8)) (k : Nat) (h : k < L.length) : enc (L.take (k + 1)) = framed (enc (L.take k)) (L.getD k []) := by
  rw [ltake_step L k h, enc_snoc]
theorem enc_drop (L : List (List UInt8)) (k : Nat) (h : k < L.length) : enc (L.drop k) = Lib.uvarint (L.getD k []).length ++ (L.getD k [] ++ enc (L.drop (k + 1))) := by
  rw [ldrop_step L k h, enc]

/-- How many bytes the fields hold. -/
def tot (L : List (List UInt8)) : Nat := (L.map List.length).sum
theorem tot_take (L : List (List UInt8)) (k : Nat) (h : k < L.length) : tot (L.take (k + 1)) = tot (L.take k) + (L.getD k []).length := by
  rw [ltake_step L k h]; simp [tot]
theorem enc_len : ∀ L : List (List UInt8), (∀ l ∈ L, l.length ≤ 1048576) → (enc L).length ≤ tot L + 10 * L.length
  | [], _ => by simp [enc]
  | l :: L, h => by
    have ih := enc_len L (fun x hx => h x (List.mem_cons_of_mem _ hx))
    have hl := h l List.mem_cons_self
    have hu := Lib.uvarint_length64 (x := l.length) (by omega)
    simp [enc, tot] at ih ⊢
    omega
theorem enc_le_drop : ∀ (L : List (List UInt8)) (k : Nat), (enc (L.drop k)).length ≤ (enc L).length
  | [], k => by simp
  | l :: L, 0 => by simp
  | l :: L, k + 1 => by
    have := enc_le_drop L k
    rw [List.drop_succ_cons, enc]; simp; omega

/-- WHAT IS WRITTEN IS WHAT IS READ: a varint of at most nine bytes, whatever follows it. -/
theorem from_enc : ∀ (f x i acc : Nat) (r : List UInt8), x < 128 ^ f → i + (Lib.uvarint x).length ≤ 9 → Lib.uvarintFrom i acc (Lib.uvarint x ++ r) = (acc + x * 2 ^ (7 * i), ((i + (Lib.uvarint x).length : Nat) : Int))
  | 0, x, i, acc, r, h, h9 => by
    have hx : x = 0 := by simpa using h
    subst hx
    rw [Lib.uvarint_small (by decide)] at h9 ⊢
    simp at h9
    show Lib.uvarintFrom i acc ((0 : Nat).toUInt8 :: r) = _
    simp only [Lib.uvarintFrom]
    rw [if_neg (by omega), if_pos (by decide), if_neg (by omega)]
    simp
  | f + 1, x, i, acc, r, h, h9 => by
    by_cases hs : x < 128
    · rw [Lib.uvarint_small hs] at h9 ⊢
      simp at h9
      have ht : x.toUInt8.toNat = x := by rw [Nat.toUInt8, UInt8.toNat_ofNat_of_lt' (by have : UInt8.size = 256 := rfl; omega)]
      show Lib.uvarintFrom i acc (x.toUInt8 :: r) = _
      simp only [Lib.uvarintFrom]
      rw [ht, if_neg (by omega), if_pos hs, if_neg (by omega)]
      simp
    · rw [Lib.uvarint_big (by omega)] at h9 ⊢
      simp only [List.length_cons] at h9
      have ht : ((x % 128 + 128).toUInt8).toNat = x % 128 + 128 := by rw [Nat.toUInt8, UInt8.toNat_ofNat_of_lt' (by have : UInt8.size = 256 := rfl; omega)]
      have hd : x / 128 < 128 ^ f := by rw [Nat.pow_succ] at h; exact Nat.div_lt_of_lt_mul (by rw [Nat.mul_comm]; exact h)
      have ih := from_enc f (x / 128) (i + 1) (acc + (x % 128 + 128) % 128 * 2 ^ (7 * i)) r hd (by omega)
      show Lib.uvarintFrom i acc ((x % 128 + 128).toUInt8 :: (Lib.uvarint (x / 128) ++ r)) = _
      simp only [Lib.uvarintFrom]
      rw [ht, if_neg (by omega), if_neg (by omega), ih, pow_step]
      refine Prod.ext ?_ ?_
      · show acc + (x % 128 + 128) % 128 * 2 ^ (7 * i) + x / 128 * (128 * 2 ^ (7 * i)) = acc + x * 2 ^ (7 * i)
        have e1 : (x % 128 + 128) % 128 = x % 128 := by omega
        have e2 : x / 128 * (128 * 2 ^ (7 * i)) = (128 * (x / 128)) * 2 ^ (7 * i) := by rw [Nat.mul_comm 128 (x / 128), Nat.mul_assoc]
        have e3 : x * 2 ^ (7 * i) = (x % 128 + 128 * (x / 128)) * 2 ^ (7 * i) := by rw [show x % 128 + 128 * (x / 128) = x from by omega]
        rw [e1, e2, e3, Nat.add_mul]; omega
      · show ((i + 1 + (Lib.uvarint (x / 128)).length : Nat) : Int) = ((i + ((Lib.uvarint (x / 128)).length + 1) : Nat) : Int)
        omega

theorem dec_enc (x : Nat) (r : List UInt8) (hx : x ≤ 1048576) : Lib.uvarintDec (Lib.uvarint x ++ r) = (x, ((Lib.uvarint x).length : Int)) := by
  have hl := Lib.uvarint_length 2 x (Nat.lt_of_le_of_lt hx (by decide))
  have := from_enc 3 x 0 0 r (Nat.lt_of_le_of_lt hx (by decide)) (by omega)
  simpa [Lib.uvarintDec] using this
end Go.Proofs.Qxb6605731aDoor.Plain
