/- The contract of 'contentLength' and of its thin door 'ZZcontentLength'. -/
import Derived.Test.Qxb6605682aRows
import Derived.Test.Qxb6605682aDigits
import Derived.WalkKit
import Derived.ProofKit
import Derived.Laws.IdiomStrings
namespace Go.Proofs.Qxb6605682a
open Go.ChangeShapes Go.WideShapes Go.ChangeAt Go.RowKit
open Plain

theorem ret_two {a a' : Int} {b b' : Bool} (h : a = a') (h' : b = b') : Ending.returned (.tuple #[.int .i64 a, .bool b]) = .returned (.tuple #[.int .i64 a', .bool b']) := by rw [h, h']

theorem cl_none (ao : Option Addr) (c : Nat) (w : World) :
    Calls Try.prog 12 #[.slice ao 0 c] w fun e w' => e = .returned (.tuple #[.int .i64 (-1), .bool true]) ∧ w' = w := by
  go_enter Try.func12, Try.ntmps12
  go_wp2
  go_ret2
  exact ⟨rfl, rfl⟩

theorem cl_many (ao : Option Addr) (n c : Nat) (hn : 2 ≤ n) (w : World) :
    Calls Try.prog 12 #[.slice ao n c] w fun e w' => e = .returned (.tuple #[.int .i64 0, .bool false]) ∧ w' = w := by
  have h0 : ((n : Int) == 0) = false := by simp; omega
  have h1 : (1 : Int) < (n : Int) := by omega
  go_enter Try.func12, Try.ntmps12
  go_wp2
  go_ret2
  exact ⟨rfl, rfl⟩

theorem cl_empty (b off c : Nat) (s : ByteArray) (w : World) (hc : w.cell? ⟨b, off, none⟩ = some (.string s)) (hs : s.toList.isEmpty = true) :
    Calls Try.prog 12 #[.slice (some ⟨b, off, none⟩) 1 c] w fun e w' => e = .returned (.tuple #[.int .i64 0, .bool false]) ∧ w' = w := by
  go_enter Try.func12, Try.ntmps12
  go_wp2
  go_ret2
  exact ⟨rfl, rfl⟩

theorem cl_long (b off c : Nat) (s : ByteArray) (w : World) (hc : w.cell? ⟨b, off, none⟩ = some (.string s)) (hs : s.toList.isEmpty = false) (hl : (18 : Int) < (s.size : Int)) :
    Calls Try.prog 12 #[.slice (some ⟨b, off, none⟩) 1 c] w fun e w' => e = .returned (.tuple #[.int .i64 0, .bool false]) ∧ w' = w := by
  go_enter Try.func12, Try.ntmps12
  go_wp2
  go_ret2
  exact ⟨rfl, rfl⟩

set_option maxHeartbeats 1000000 in
theorem cl_core (b off c : Nat) (s : ByteArray) (w : World) (cap : Nat) (C : Array Value) (hc : w.cell? ⟨b, off, none⟩ = some (.string s)) (hs : s.toList.isEmpty = false) (h1 : 1 ≤ s.size) (h18 : s.size ≤ 18)
    (hconv : (convert 9 26 (.string s)).run Try.prog w = .ok (.slice (some ⟨w.heap.size, 0, none⟩) s.size cap) (w.drew.alloc (.cells C 5 (C.size, C.size + 1))))
    (hC : ∀ j, j < s.size → (w.alloc (.cells C 5 (C.size, C.size + 1))).cell? ⟨w.heap.size, j, none⟩ = some (.int .u8 ((s.data.toList.getD j 0).toNat : Int))) :
    Calls Try.prog 12 #[.slice (some ⟨b, off, none⟩) 1 c] w fun e w' => e = .returned (.tuple #[.int .i64 (clN s.data.toList), .bool (clB s.data.toList)]) ∧ Below w.heap.size w w' := by
  have hlen : s.data.toList.length = s.size := rfl
  have HL : Hid (s.data.toList.length = s.size) := hlen
  clear hlen
  have hle : ¬ (18 : Int) < (s.size : Int) := by omega
  go_enter Try.func12, Try.ntmps12
  go_wp2
  go_loop [4, 33] (fun n i => ∃ (k : Nat) (m : Int), k ≤ s.size ∧ i = .int .i64 k ∧ n = .int .i64 m ∧ 0 ≤ m ∧ Hid (m = num (s.data.toList.take k)) ∧ Hid (digs (s.data.toList.take k) = true)) (fun _ i => s.size - (intOf i).toNat)
  case atStart => exact ⟨0, 0, Nat.zero_le _, rfl, rfl, by omega, rfl, rfl⟩
  case round =>
    obtain ⟨k, m, hk, rfl, rfl, hm0, HM, HD⟩ := hrel
    obtain ⟨cv, hcv⟩ : ∃ cv : Int, cv = ((s.data.toList.getD k 0).toNat : Int) := ⟨_, rfl⟩
    have hcv0 : 0 ≤ cv := by omega
    have hcv1 : cv ≤ 255 := by rw [hcv]; exact byte_le _
    have hcell : k < s.size → (w.alloc (.cells C 5 (C.size, C.size + 1))).cell? ⟨w.heap.size, k, none⟩ = some (.int .u8 cv) := fun h => by rw [hcv]; exact hC k h
    have HC : Hid (cv = ((s.data.toList.getD k 0).toNat : Int)) := hcv
    clear hcv hC hconv
    by_cases hlt : k < s.size
    · have hm1 : m ≤ 100000000000000000 := by rw [HM.out]; exact (num_take_bd _ k (by rw [HL.out]; omega) (by omega) HD.out).2
      by_cases hd : 48 ≤ cv ∧ cv ≤ 57
      · obtain ⟨hd1, hd2⟩ := hd
        go_wp2
        go_round
        case rel => exact ⟨k + 1, 10 * m + (cv - 48), by omega, by go_num, rfl, by omega, by show _ = _; rw [num_step _ k (by rw [HL.out]; omega), HM.out, HC.out], digs_step _ k (by rw [HL.out]; omega) HD.out (by rw [← HC.out]; exact hd1) (by rw [← HC.out]; exact hd2)⟩
        case measure => simp [intOf]; omega
      · have hno : clB s.data.toList = false := clB_digs (digs_no _ k (by rw [HL.out]; omega) (by rw [← HC.out]; omega))
        have HN : Hid (clB s.data.toList = false) := hno
        clear hno
        rcases (show cv < 48 ∨ 57 < cv from by omega) with h | h
        · clear hd
          go_wp2
          go_ret2
          exact ⟨by rw [clN_false HN.out, HN.out]; rfl, (((Below.refl _ _).alloc (Nat.le_refl _) _).drew)⟩
        · clear hd
          have h' : ¬ cv < 48 := by omega
          go_wp2
          go_ret2
          exact ⟨by rw [clN_false HN.out, HN.out]; rfl, (((Below.refl _ _).alloc (Nat.le_refl _) _).drew)⟩
    · have hk' : k = s.size := by omega
      have HY : Hid (clB s.data.toList = true) := clB_true (by rw [HL.out]; omega) (by rw [HL.out]; omega) (by have := HD.out; rwa [List.take_of_length_le (by rw [HL.out]; omega)] at this)
      have HN : Hid (m = num s.data.toList) := by have := HM.out; rwa [List.take_of_length_le (by rw [HL.out]; omega)] at this
      clear hk'
      go_wp2
      go_ret2
      exact ⟨by rw [clN_true HY.out, HY.out, ← HN.out]; rfl, (((Below.refl _ _).alloc (Nat.le_refl _) _).drew)⟩

theorem toList_empty (s : ByteArray) : s.toList.isEmpty = decide (s.size = 0) := by
  rw [ByteArray.toList_eq]
  obtain ⟨⟨l⟩⟩ := s
  cases l with
  | nil => rfl
  | cons x xs => rfl

/-- 'contentLength' at one value: its number and whether it is fit; what it makes is new memory. -/
theorem cl_one (b off c : Nat) (s : ByteArray) (w : World) (hc : w.cell? ⟨b, off, none⟩ = some (.string s)) :
    Calls Try.prog 12 #[.slice (some ⟨b, off, none⟩) 1 c] w fun e w' => e = .returned (.tuple #[.int .i64 (clN s.data.toList), .bool (clB s.data.toList)]) ∧ Below w.heap.size w w' := by
  by_cases h0 : s.size = 0
  · have hn : clB s.data.toList = false := clB_short h0
    refine (cl_empty b off c s w hc (by rw [toList_empty]; simp [h0])).mono ?_
    rintro e w' ⟨rfl, rfl⟩
    exact ⟨by rw [clN_false hn, hn], Below.refl _ _⟩
  · have he : s.toList.isEmpty = false := by rw [toList_empty]; simp [h0]
    by_cases h18 : s.size ≤ 18
    · have hcv := run_bytes_of_string (P := Try.prog) w 9 26 5 s Try.underlying9 Try.underlying26 Try.underlying5
      refine cl_core b off c s w _ _ hc he (by omega) h18 hcv ?_
      intro j hj
      rw [World.cell?_alloc_mark]
      unfold bytesRow
      rw [Array.getElem?_append_left (by simpa using hj)]
      have : j < s.data.size := hj
      simp only [Array.getElem?_map, Array.getElem?_eq_getElem this, Option.map_some]
      congr 3
      simp [List.getD, Array.getElem?_eq_getElem this]
    · have hn : clB s.data.toList = false := clB_long (by show 18 < s.size; omega)
      refine (cl_long b off c s w hc he (by omega)).mono ?_
      rintro e w' ⟨rfl, rfl⟩
      exact ⟨by rw [clN_false hn, hn], Below.refl _ _⟩

/-! ### The door 'ZZcontentLength' -/
theorem zz_none (ao : Option Addr) (c : Nat) (w : World) :
    Calls Try.prog 8 #[.slice ao 0 c] w fun e w' => e = .returned (.tuple #[.int .i64 (-1), .bool true]) ∧ w' = w := by
  go_enter Try.func8, Try.ntmps8
  go_wp2_with (go_at_call 12; refine (cl_none _ _ _).mono ?_; rintro e w' ⟨rfl, rfl⟩)
  go_ret2
  exact ⟨rfl, rfl⟩

theorem zz_many (ao : Option Addr) (n c : Nat) (hn : 2 ≤ n) (w : World) :
    Calls Try.prog 8 #[.slice ao n c] w fun e w' => e = .returned (.tuple #[.int .i64 0, .bool false]) ∧ w' = w := by
  go_enter Try.func8, Try.ntmps8
  go_wp2_with (go_at_call 12; refine (cl_many _ _ _ hn _).mono ?_; rintro e w' ⟨rfl, rfl⟩)
  go_ret2
  exact ⟨rfl, rfl⟩

theorem zz_one (b off c : Nat) (s : ByteArray) (w : World) (hc : w.cell? ⟨b, off, none⟩ = some (.string s)) :
    Calls Try.prog 8 #[.slice (some ⟨b, off, none⟩) 1 c] w fun e w' => e = .returned (.tuple #[.int .i64 (clN s.data.toList), .bool (clB s.data.toList)]) ∧ Below w.heap.size w w' := by
  have H : Hid (w.cell? ⟨b, off, none⟩ = some (.string s)) := hc
  clear hc
  go_enter Try.func8, Try.ntmps8
  go_wp2_with (go_at_call 12; refine (cl_one _ _ _ s _ H.out).mono ?_; rintro e w' ⟨rfl, hb⟩)
  go_ret2
  exact ⟨rfl, hb⟩
end Go.Proofs.Qxb6605682a
