/- The contract of 'contentLengthModel': the same number and the same verdict as 'contentLength', reckoned from the right. -/
import Derived.Test.Qxb6605682aRows
import Derived.Test.Qxb6605682aDigits
import Derived.WalkKit
import Derived.ProofKit
namespace Go.Proofs.Qxb6605682a
open Go.ChangeShapes Go.WideShapes Go.ChangeAt Go.RowKit
open Plain

theorem md_none (ao : Option Addr) (c : Nat) (w : World) :
    Calls Try.prog 9 #[.slice ao 0 c] w fun e w' => e = .returned (.tuple #[.int .i64 (-1), .bool true]) ∧ w' = w := by
  go_enter Try.func9, Try.ntmps9
  go_wp2
  go_ret2
  exact ⟨rfl, rfl⟩

theorem md_many (ao : Option Addr) (n c : Nat) (hn : 2 ≤ n) (w : World) :
    Calls Try.prog 9 #[.slice ao n c] w fun e w' => e = .returned (.tuple #[.int .i64 0, .bool false]) ∧ w' = w := by
  have h0 : ((n : Int) == 0) = false := by simp; omega
  have h1 : ((n : Int) != 1) = true := by simp; omega
  go_enter Try.func9, Try.ntmps9
  go_wp2
  go_ret2
  exact ⟨rfl, rfl⟩

theorem md_empty (b off c : Nat) (s : ByteArray) (w : World) (hc : w.cell? ⟨b, off, none⟩ = some (.string s)) (hs : (s.size : Int) < 1) :
    Calls Try.prog 9 #[.slice (some ⟨b, off, none⟩) 1 c] w fun e w' => e = .returned (.tuple #[.int .i64 0, .bool false]) ∧ w' = w := by
  go_enter Try.func9, Try.ntmps9
  go_wp2
  go_ret2
  exact ⟨rfl, rfl⟩

theorem md_long (b off c : Nat) (s : ByteArray) (w : World) (hc : w.cell? ⟨b, off, none⟩ = some (.string s)) (hl : (18 : Int) < (s.size : Int)) :
    Calls Try.prog 9 #[.slice (some ⟨b, off, none⟩) 1 c] w fun e w' => e = .returned (.tuple #[.int .i64 0, .bool false]) ∧ w' = w := by
  have h1 : ¬ (s.size : Int) < 1 := by omega
  go_enter Try.func9, Try.ntmps9
  go_wp2
  go_ret2
  exact ⟨rfl, rfl⟩

theorem num_drop_bd (l : List UInt8) (t : Nat) (ht : 1 ≤ t) (hl : l.length ≤ 18) (hd : digs (l.drop t) = true) : 0 ≤ num (l.drop t) ∧ num (l.drop t) < pw (l.length - t) ∧ 1 ≤ pw (l.length - t) ∧ pw (l.length - t) ≤ 100000000000000000 := by
  have h := num_bd _ hd
  have e : (l.drop t).length = l.length - t := by simp
  rw [e] at h
  have h2 := pw_mono (a := l.length - t) (b := 17) (by omega)
  have h3 : pw 17 = 100000000000000000 := by decide
  have h4 := pw_pos (l.length - t)
  omega

theorem prod_bd (d p : Int) (h0 : 0 ≤ d) (h9 : d ≤ 9) (hp : 1 ≤ p) (hp2 : p ≤ 100000000000000000) : 0 ≤ d * p ∧ d * p ≤ 900000000000000000 := by
  have e1 : 0 ≤ d * p := Int.mul_nonneg h0 (by omega)
  have e2 : d * p ≤ 9 * p := Int.mul_le_mul_of_nonneg_right h9 (by omega)
  omega

theorem get_at (s : ByteArray) (q : Nat) (hq : q < s.size) : s[q] = s.data.toList.getD q 0 := by
  have : q < s.data.size := hq
  simp [List.getD, Array.getElem?_eq_getElem this]
  rfl

theorem num_back (l : List UInt8) (q : Nat) (h : q < l.length) : num (l.drop q) = num (l.drop (q + 1)) + (((l.getD q 0).toNat : Int) - 48) * pw (l.length - (q + 1)) := by
  rw [drop_step l q h, num_cons]
  have e : (l.drop (q + 1)).length = l.length - (q + 1) := by simp
  rw [e]; omega
theorem digs_back (l : List UInt8) (q : Nat) (h : q < l.length) (hd : digs (l.drop (q + 1)) = true) (h1 : 48 ≤ ((l.getD q 0).toNat : Int)) (h2 : ((l.getD q 0).toNat : Int) ≤ 57) : digs (l.drop q) = true := by
  rw [drop_step l q h, digs_cons, hd, (isDig_iff _).2 ⟨h1, h2⟩]; rfl

set_option maxHeartbeats 1000000 in
theorem md_core (b off c : Nat) (s : ByteArray) (w : World) (hc : w.cell? ⟨b, off, none⟩ = some (.string s)) (h1 : 1 ≤ s.size) (h18 : s.size ≤ 18) :
    Calls Try.prog 9 #[.slice (some ⟨b, off, none⟩) 1 c] w fun e w' => e = .returned (.tuple #[.int .i64 (clN s.data.toList), .bool (clB s.data.toList)]) ∧ w' = w := by
  have HL : Hid (s.data.toList.length = s.size) := rfl
  have hle : ¬ (18 : Int) < (s.size : Int) := by omega
  have hle1 : ¬ (s.size : Int) < 1 := by omega
  go_enter Try.func9, Try.ntmps9
  go_wp2
  go_loop [5, 6, 7] (fun v pl i => ∃ (t : Nat) (m p : Int), t ≤ s.size ∧ i = .int .i64 ((t : Int) - 1) ∧ v = .int .i64 m ∧ pl = .int .i64 p ∧ 0 ≤ m ∧ Hid (m = num (s.data.toList.drop t)) ∧ Hid (p = pw (s.data.toList.length - t)) ∧ Hid (digs (s.data.toList.drop t) = true)) (fun _ _ i => (intOf i + 1).toNat)
  case atStart => exact ⟨s.size, 0, 1, Nat.le_refl _, by go_num, rfl, rfl, by omega, by show _ = _; rw [List.drop_of_length_le (by rw [HL.out]; omega)]; rfl, by show _ = _; rw [HL.out, Nat.sub_self]; rfl, by show _ = _; rw [List.drop_of_length_le (by rw [HL.out]; omega)]; rfl⟩
  case round =>
    obtain ⟨t, m, p, ht, rfl, rfl, rfl, hm0, HM, HP, HD⟩ := hrel
    by_cases ht0 : 1 ≤ t
    · obtain ⟨q, rfl⟩ : ∃ q, t = q + 1 := ⟨t - 1, by omega⟩
      have hbd := num_drop_bd s.data.toList (q + 1) (by omega) (by rw [HL.out]; omega) HD.out
      have hm1 : m < p := by rw [HM.out, HP.out]; exact hbd.2.1
      have hp0 : 1 ≤ p := by rw [HP.out]; exact hbd.2.2.1
      have hp1 : p ≤ 100000000000000000 := by rw [HP.out]; exact hbd.2.2.2
      have hq : q < s.size := by omega
      clear hbd
      have HQ : Hid (s[q] = s.data.toList.getD q 0) := get_at s q hq
      by_cases hd : 48 ≤ (s[q].toNat : Int) ∧ (s[q].toNat : Int) ≤ 57
      · obtain ⟨hd1, hd2⟩ := hd
        have hpr := prod_bd ((s[q].toNat : Int) - 48) p (by omega) (by omega) hp0 hp1
        go_wp2
        go_round
        case rel =>
          refine ⟨q, m + ((s[q].toNat : Int) - 48) * p, p * 10, by omega, by go_num, by go_num, by go_num, by omega, ?_, ?_, ?_⟩
          · show _ = _
            rw [num_back _ q (by rw [HL.out]; omega), ← HM.out, ← HP.out, ← HQ.out]
          · show _ = _
            rw [HP.out, show s.data.toList.length - q = s.data.toList.length - (q + 1) + 1 from by rw [HL.out]; omega, pw_succ]; omega
          · exact digs_back _ q (by rw [HL.out]; omega) HD.out (by rw [← HQ.out]; exact hd1) (by rw [← HQ.out]; exact hd2)
        case measure => simp [intOf]
      · have HN : Hid (clB s.data.toList = false) := clB_digs (digs_no _ q (by rw [HL.out]; omega) (by rw [← HQ.out]; omega))
        rcases (show (s[q].toNat : Int) < 48 ∨ 57 < (s[q].toNat : Int) from by omega) with h | h
        · clear hd
          go_wp2
          go_ret2
          exact ⟨by rw [clN_false HN.out, HN.out]; rfl, rfl⟩
        · clear hd
          have h' : ¬ (s[q].toNat : Int) < 48 := by omega
          go_wp2
          go_ret2
          exact ⟨by rw [clN_false HN.out, HN.out]; rfl, rfl⟩
    · have ht' : t = 0 := by omega
      subst ht'
      have HY : Hid (clB s.data.toList = true) := clB_true (by rw [HL.out]; omega) (by rw [HL.out]; omega) HD.out
      have HN : Hid (m = num s.data.toList) := HM.out
      go_wp2
      go_ret2
      exact ⟨by rw [clN_true HY.out, HY.out, ← HN.out]; rfl, rfl⟩

/-- 'contentLengthModel' at one value. -/
theorem md_one (b off c : Nat) (s : ByteArray) (w : World) (hc : w.cell? ⟨b, off, none⟩ = some (.string s)) :
    Calls Try.prog 9 #[.slice (some ⟨b, off, none⟩) 1 c] w fun e w' => e = .returned (.tuple #[.int .i64 (clN s.data.toList), .bool (clB s.data.toList)]) ∧ w' = w := by
  by_cases h0 : s.size = 0
  · have hn : clB s.data.toList = false := clB_short h0
    refine (md_empty b off c s w hc (by omega)).mono ?_
    rintro e w' ⟨rfl, rfl⟩
    exact ⟨by rw [clN_false hn, hn], rfl⟩
  · by_cases h18 : s.size ≤ 18
    · exact md_core b off c s w hc (by omega) h18
    · have hn : clB s.data.toList = false := clB_long (by show 18 < s.size; omega)
      refine (md_long b off c s w hc (by omega)).mono ?_
      rintro e w' ⟨rfl, rfl⟩
      exact ⟨by rw [clN_false hn, hn], rfl⟩
end Go.Proofs.Qxb6605682a
