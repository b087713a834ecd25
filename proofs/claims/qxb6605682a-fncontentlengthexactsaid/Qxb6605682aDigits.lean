/- The plain law of decimal digits: no Go in sight. -/
namespace Go.Proofs.Qxb6605682a.Plain

def isDig (c : UInt8) : Bool := decide (48 ≤ c.toNat) && decide (c.toNat ≤ 57)
def digs (l : List UInt8) : Bool := l.all isDig
def numFrom (a : Int) (l : List UInt8) : Int := l.foldl (fun a c => 10 * a + ((c.toNat : Int) - 48)) a
def num (l : List UInt8) : Int := numFrom 0 l
def pw (k : Nat) : Int := 10 ^ k

theorem pw_succ (k : Nat) : pw (k + 1) = 10 * pw k := by unfold pw; rw [Int.pow_succ]; omega
theorem pw_zero : pw 0 = 1 := rfl
theorem pw_pos (k : Nat) : 0 < pw k := by
  induction k with
  | zero => decide
  | succ k ih => rw [pw_succ]; omega
theorem pw_mono {a b : Nat} (h : a ≤ b) : pw a ≤ pw b := by
  induction b with
  | zero => have : a = 0 := by omega
            subst this; exact Int.le_refl _
  | succ b ih =>
    by_cases e : a = b + 1
    · subst e; exact Int.le_refl _
    · have := ih (by omega); have := pw_pos b; rw [pw_succ]; omega

theorem isDig_iff (c : UInt8) : isDig c = true ↔ 48 ≤ (c.toNat : Int) ∧ (c.toNat : Int) ≤ 57 := by
  unfold isDig; simp; omega

theorem digs_cons (c : UInt8) (l : List UInt8) : digs (c :: l) = (isDig c && digs l) := by simp [digs]
theorem digs_snoc (c : UInt8) (l : List UInt8) : digs (l ++ [c]) = (digs l && isDig c) := by simp [digs, List.all_append]
theorem digs_append (a b : List UInt8) : digs (a ++ b) = (digs a && digs b) := by simp [digs, List.all_append]
theorem num_nil : num [] = 0 := rfl
theorem num_snoc (l : List UInt8) (c : UInt8) : num (l ++ [c]) = 10 * num l + ((c.toNat : Int) - 48) := by
  simp [num, numFrom, List.foldl_append]
theorem numFrom_eq (l : List UInt8) : ∀ a, numFrom a l = a * pw l.length + num l := by
  induction l with
  | nil => intro a; simp [numFrom, num, pw]
  | cons c l ih =>
    intro a
    have h1 : numFrom a (c :: l) = numFrom (10 * a + ((c.toNat : Int) - 48)) l := rfl
    have h2 : num (c :: l) = numFrom (10 * 0 + ((c.toNat : Int) - 48)) l := rfl
    rw [h1, h2, ih, ih, List.length_cons, pw_succ]
    rw [Int.add_mul, Int.add_mul]
    have : 10 * a * pw l.length = a * (10 * pw l.length) := by rw [Int.mul_comm 10 a, Int.mul_assoc]
    omega
theorem num_cons (c : UInt8) (l : List UInt8) : num (c :: l) = ((c.toNat : Int) - 48) * pw l.length + num l := by
  have h2 : num (c :: l) = numFrom (10 * 0 + ((c.toNat : Int) - 48)) l := rfl
  rw [h2, numFrom_eq]; simp
theorem num_append (a b : List UInt8) : num (a ++ b) = num a * pw b.length + num b := by
  have : num (a ++ b) = numFrom (num a) b := by simp [num, numFrom, List.foldl_append]
  rw [this, numFrom_eq]
theorem num_bd (l : List UInt8) (h : digs l = true) : 0 ≤ num l ∧ num l < pw l.length := by
  induction l with
  | nil => simp [num_nil, pw]
  | cons c l ih =>
    rw [digs_cons, Bool.and_eq_true] at h
    have hc := (isDig_iff c).1 h.1
    have ⟨i1, i2⟩ := ih h.2
    have hp := pw_pos l.length
    rw [num_cons, List.length_cons, pw_succ]
    have e1 : 0 ≤ ((c.toNat : Int) - 48) * pw l.length := Int.mul_nonneg (by omega) (by omega)
    have e2 : ((c.toNat : Int) - 48) * pw l.length ≤ 9 * pw l.length := Int.mul_le_mul_of_nonneg_right (by omega) (by omega)
    omega

theorem take_step (l : List UInt8) (k : Nat) (h : k < l.length) : l.take (k + 1) = l.take k ++ [l.getD k 0] := by
  rw [List.take_succ_eq_append_getElem h]; simp [List.getD, h]
theorem drop_step (l : List UInt8) (k : Nat) (h : k < l.length) : l.drop k = l.getD k 0 :: l.drop (k + 1) := by
  rw [List.drop_eq_getElem_cons h]; simp [List.getD, h]
theorem num_step (l : List UInt8) (k : Nat) (h : k < l.length) : num (l.take (k + 1)) = 10 * num (l.take k) + (((l.getD k 0).toNat : Int) - 48) := by
  rw [take_step l k h, num_snoc]
theorem digs_step (l : List UInt8) (k : Nat) (h : k < l.length) (hd : digs (l.take k) = true) (h1 : 48 ≤ ((l.getD k 0).toNat : Int)) (h2 : ((l.getD k 0).toNat : Int) ≤ 57) : digs (l.take (k + 1)) = true := by
  rw [take_step l k h, digs_snoc, hd, (isDig_iff _).2 ⟨h1, h2⟩]; rfl
theorem digs_at (l : List UInt8) (k : Nat) (h : k < l.length) (hd : digs l = true) : 48 ≤ ((l.getD k 0).toNat : Int) ∧ ((l.getD k 0).toNat : Int) ≤ 57 := by
  have e : l = l.take k ++ l.getD k 0 :: l.drop (k + 1) := by rw [← drop_step l k h, List.take_append_drop]
  rw [e, digs_append, digs_cons] at hd
  simp only [Bool.and_eq_true] at hd
  exact (isDig_iff _).1 hd.2.1
theorem digs_no (l : List UInt8) (k : Nat) (h : k < l.length) (hc : ((l.getD k 0).toNat : Int) < 48 ∨ 57 < ((l.getD k 0).toNat : Int)) : digs l = false := by
  cases e : digs l with
  | false => rfl
  | true => have := digs_at l k h e; omega
/-- What one value of a Content-Length head is worth: is it fit, and its number. -/
def clB (l : List UInt8) : Bool := decide (1 ≤ l.length) && (decide (l.length ≤ 18) && digs l)
def clN (l : List UInt8) : Int := if clB l = true then num l else 0
theorem clB_true {l : List UInt8} (h1 : 1 ≤ l.length) (h2 : l.length ≤ 18) (h3 : digs l = true) : clB l = true := by simp [clB, h1, h2, h3]
theorem clB_long {l : List UInt8} (h : 18 < l.length) : clB l = false := by
  have : ¬ l.length ≤ 18 := by omega
  simp [clB, this]
theorem clB_short {l : List UInt8} (h : l.length = 0) : clB l = false := by
  have : ¬ 1 ≤ l.length := by omega
  simp [clB, this]
theorem clB_digs {l : List UInt8} (h : digs l = false) : clB l = false := by simp [clB, h]
theorem clN_true {l : List UInt8} (h : clB l = true) : clN l = num l := by simp [clN, h]
theorem clN_false {l : List UInt8} (h : clB l = false) : clN l = 0 := by simp [clN, h]
theorem num_take_bd (l : List UInt8) (k : Nat) (hk : k ≤ l.length) (hl : k ≤ 17) (hd : digs (l.take k) = true) : 0 ≤ num (l.take k) ∧ num (l.take k) ≤ 100000000000000000 := by
  have h := num_bd _ hd
  have e : (l.take k).length = k := by simp; omega
  rw [e] at h
  have h2 := pw_mono (a := k) (b := 17) (by omega)
  have h3 : pw 17 = 100000000000000000 := by decide
  omega
theorem byte_le (c : UInt8) : (c.toNat : Int) ≤ 255 := by have := c.toNat_lt; omega
end Go.Proofs.Qxb6605682a.Plain
