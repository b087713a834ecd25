/- The contract of 'appendDecimal': behind dst's bytes come digits that spell the number. -/
import Derived.Test.Qxb6605682aRows
import Derived.Test.Qxb6605682aDigits
import Derived.WalkKit
import Derived.ProofKit
namespace Go.Proofs.Qxb6605682a
open Go.ChangeShapes Go.WideShapes Go.ChangeAt Go.RowKit
open Plain

theorem Try.info5 : (Try.prog.info? 5).map (fun i => (i.zero, i.size, i.bytes)) = some (some (.int .u8 0), 1, 1) := by kernel_rfl

/-- Bytes as cells. -/
def bcells (l : List UInt8) : List Value := l.map (fun b => .int .u8 (b.toNat : Int))

/-- The table of digits, filled from its end: 'ds' lies from 'p' on. -/
def Filled (arr : Array Value) (p : Nat) (ds : List UInt8) : Prop := arr.size = 20 ∧ ∀ t, t < ds.length → arr[p + t]? = some (.int .u8 ((ds.getD t 0).toNat : Int))

theorem Filled.step {arr : Array Value} {q : Nat} {ds : List UInt8} (h : Filled arr (q + 1) ds) (hq : q < 20) (c : UInt8) (v : Value) (hv : v = .int .u8 (c.toNat : Int)) : Filled (arr.setIfInBounds q v) q (c :: ds) := by
  refine ⟨by simp [h.1], fun t ht => ?_⟩
  cases t with
  | zero => simp [h.1, hq, hv]
  | succ t =>
    have := h.2 t (by simpa using ht)
    rw [Array.getElem?_setIfInBounds_ne (by omega)]
    rw [show q + (t + 1) = q + 1 + t from by omega, this]
    simp

theorem digit_byte (m : Int) : ∃ c : UInt8, (c.toNat : Int) = 48 + m % 10 := by
  refine ⟨UInt8.ofNat (48 + (m % 10).toNat), ?_⟩
  rw [UInt8.toNat_ofNat_of_lt' (by have : UInt8.size = 256 := rfl; omega)]
  omega

theorem dec_step (m n : Int) (ds : List UInt8) (c : UInt8) (h : m * pw ds.length + num ds = n) (hc : (c.toNat : Int) = 48 + m % 10) : m / 10 * pw (c :: ds).length + num (c :: ds) = n := by
  rw [num_cons, List.length_cons, pw_succ, hc, ← h]
  have e : m = 10 * (m / 10) + m % 10 := by omega
  have e2 : m * pw ds.length = (10 * (m / 10) + m % 10) * pw ds.length := by rw [← e]
  rw [e2, Int.add_mul]
  have e3 : m / 10 * (10 * pw ds.length) = 10 * (m / 10) * pw ds.length := by rw [Int.mul_comm 10 (m / 10), Int.mul_assoc]
  have e4 : (48 + m % 10 - 48) = m % 10 := by omega
  rw [e3, e4]; omega

theorem dec_room (m n : Int) (ds : List UInt8) (h : m * pw ds.length + num ds = n) (hd : digs ds = true) (hm : 1 ≤ m) (hn : n ≤ 999999999999999999) : ds.length < 18 := by
  rcases Nat.lt_or_ge ds.length 18 with h' | h'
  · exact h'
  · have h1 := pw_mono h'
    have h2 : pw 18 = 1000000000000000000 := by decide
    have h3 := (num_bd ds hd).1
    have h4 : 1 * pw ds.length ≤ m * pw ds.length := Int.mul_le_mul_of_nonneg_right hm (by have := pw_pos ds.length; omega)
    omega

/-- A row of bytes that the call owns is not the table of digits. -/
theorem owns_ne {w : World} {B n b : Nat} {v : Value} {xs : List Value} {arr : Array Value} (h : w.ownsRow B 5 1 v n xs) (hb : w.heap[b]? = some (.cells arr 32 (0, 0))) : some b ≠ v.ownBlock := by
  intro e
  rcases h.2 with ⟨rfl, _⟩ | ⟨g, cap, cur, rfl, _, hg, _⟩
  · simp [Value.ownBlock] at e
  · simp [Value.ownBlock] at e
    subst e
    rw [hg] at hb
    simp at hb

theorem bcells_snoc (l : List UInt8) (c : UInt8) : bcells (l ++ [c]) = bcells l ++ [.int .u8 (c.toNat : Int)] := by simp [bcells]

/-- One digit more in the row. -/
theorem dec_keep {w wr w1 : World} {B L r p : Nat} {v v' : Value} {xs : List Value} {arr : Array Value} {ds : List UInt8} {o : Obj} {cv : Int} (hB : B ≤ w.heap.size) (hbel : Below B w wr) (hown : wr.ownsRow B 5 1 v (L + (r - p)) (xs ++ bcells (ds.take (r - p))))
    (htab : wr.heap[w.heap.size]? = some (.cells arr 32 (0, 0))) (hr : p ≤ r) (hlt : r - p < ds.length) (hcv : cv = ((ds.getD (r - p) 0).toNat : Int))
    (hown' : w1.ownsRow B 5 1 v' (L + (r - p) + 1) (xs ++ (bcells (ds.take (r - p)) ++ [.int .u8 cv]))) (hg : (wr.alloc o).grownBy w1 v.ownBlock) :
    w1.ownsRow B 5 1 v' (L + (r + 1 - p)) (xs ++ bcells (ds.take (r + 1 - p))) ∧ w1.heap[w.heap.size]? = some (.cells arr 32 (0, 0)) ∧ Below B w w1 := by
  have hlt' := lt_of_block htab
  refine ⟨?_, ?_, ?_⟩
  · rw [show r + 1 - p = r - p + 1 from by omega, take_step ds _ hlt, bcells_snoc, ← hcv]
    exact hown'
  · rw [hg.block _ (by simp; omega) (owns_ne hown htab), Below.heap_alloc _ _ _ hlt']
    exact htab
  · exact (hbel.alloc (Nat.le_trans hB hbel.size) o).grown hg (by simp; have := hbel.size; omega) (fun k hk => (hown.lt k hk).1)

set_option maxHeartbeats 1000000 in
theorem dec_any (B L : Nat) (sv : Value) (xs : List Value) (n : Int) (w : World) (hown : w.ownsRow B 5 1 sv L xs) (hB : B ≤ w.heap.size) (hn : 1 ≤ n) (hn2 : n ≤ 999999999999999999) (hL : L ≤ 100000) :
    Calls Try.prog 10 #[sv, .int .i64 n] w fun e w' => ∃ v' ds, e = .returned v' ∧ digs ds = true ∧ num ds = n ∧ 1 ≤ ds.length ∧ ds.length ≤ 18 ∧ w'.ownsRow B 5 1 v' (L + ds.length) (xs ++ bcells ds) ∧ Below B w w' := by
  have hn0 : (n == 0) = false := by simp; omega
  obtain ⟨i0, hi, hz0, hz1, hz2⟩ := info_parts Try.info5
  go_enter Try.func10, Try.ntmps10
  go_wp2
  go_loopw [1, 6] (fun n' i wr => ∃ (p : Nat) (m : Int) (ds : List UInt8) (arr : Array Value), p + ds.length = 20 ∧ ds.length ≤ 18 ∧ i = .int .i64 p ∧ n' = .int .i64 m ∧ 0 ≤ m ∧ m ≤ n ∧ Hid (m * pw ds.length + num ds = n) ∧ Hid (digs ds = true) ∧ Hid (m < n → 1 ≤ ds.length) ∧ wr = w.alloc (.cells arr 32) ∧ Filled arr p ds) (fun n' _ _ => (intOf n').toNat)
  case atStart => exact ⟨20, n, [], _, rfl, by simp, rfl, rfl, by omega, by omega, by show _ = _; simp [num_nil, pw_zero], rfl, fun h => by omega, rfl, rfl, fun t ht => by simp at ht⟩
  case round =>
    obtain ⟨p, m, ds, arr, hp, hds, rfl, rfl, hm0, hm1, HS, HD, HN, rfl, HF⟩ := hrel
    by_cases hm : 1 ≤ m
    · have hroom := dec_room m n ds HS.out HD.out hm hn2
      obtain ⟨q, rfl⟩ : ∃ q, p = q + 1 := ⟨p - 1, by omega⟩
      obtain ⟨c, hc⟩ := digit_byte m
      have HC : Hid ((c.toNat : Int) = 48 + m % 10) := hc
      clear hc
      obtain ⟨old, hold⟩ : ∃ old, arr[q]? = some old := by
        have := HF.1
        exact ⟨arr[q], Array.getElem?_eq_getElem (by omega)⟩
      have hcell : (w.alloc (.cells arr 32)).cell? ⟨w.heap.size, q, none⟩ = some old := by rw [World.cell?_alloc_mark]; exact hold
      have hfr : (w.alloc (.cells arr 32)).frozen? ⟨w.heap.size, q, none⟩ = false := by rw [frozen?_alloc_cells]; simp [World.frozen?]
      clear hold
      go_wp2
      go_roundw
      case rel => exact ⟨q, m / 10, c :: ds, _, by simp; omega, by simp; omega, rfl, rfl, by omega, by omega, dec_step m n ds c HS.out HC.out, by show _ = _; rw [digs_cons, HD.out, (isDig_iff c).2 (by have := HC.out; omega)]; rfl, fun _ => by simp, rfl, HF.step (by omega) c _ (by rw [HC.out])⟩
      case measure => simp [intOf]; omega
    · have hm' : m = 0 := by omega
      subst hm'
      have HV : Hid (num ds = n) := by have := HS.out; rw [Int.zero_mul, Int.zero_add] at this; exact this
      have hd1 : 1 ≤ ds.length := HN.out (by omega)
      clear hm HS HN
      have hown0 := hown.alloc (.cells arr 32)
      have htab0 : (w.alloc (.cells arr 32)).heap[w.heap.size]? = some (.cells arr 32 (0, 0)) := heap_alloc_new w _
      have hbel0 : Below B w (w.alloc (.cells arr 32)) := (Below.refl _ _).alloc hB _
      clear hown
      go_wp2
      go_loopw [0, 6] (fun v i wr => ∃ r : Nat, p ≤ r ∧ r ≤ 20 ∧ i = .int .i64 r ∧ wr.ownsRow B 5 1 v (L + (r - p)) (xs ++ bcells (ds.take (r - p))) ∧ wr.heap[w.heap.size]? = some (.cells arr 32 (0, 0)) ∧ Below B w wr) (fun _ i _ => 20 - (intOf i).toNat)
      case atStart => exact ⟨p, Nat.le_refl _, by omega, rfl, by simpa [bcells] using hown0, htab0, hbel0⟩
      case round =>
        clear hown0 htab0 hbel0
        obtain ⟨r, hr1, hr2, rfl, hown, htab, hbel⟩ := hrel
        by_cases hlt : r < 20
        · obtain ⟨cv, hcv⟩ : ∃ cv : Int, cv = ((ds.getD (r - p) 0).toNat : Int) := ⟨_, rfl⟩
          have hcell : wr.cell? ⟨w.heap.size, r, none⟩ = some (.int .u8 cv) := by
            rw [cell_of_row wr w.heap.size r arr 32 (0, 0) htab, hcv, ← HF.2 (r - p) (by omega)]
            congr 1; omega
          have HC : Hid (cv = ((ds.getD (r - p) 0).toNat : Int)) := hcv
          have HT : Hid (wr.heap[w.heap.size]? = some (.cells arr 32 (0, 0))) := htab
          clear hcv htab
          go_wp2_with (at_builtin; refine wpList_append_own _ rfl _ _ 26 rfl B 5 i0 (.int .u8 0) 1 1 Try.underlying26 hi hz0 hz1 hz2 rfl (by decide) _ _ _ rfl (hown.alloc _) ⟨wr.heap.size, 0, none⟩ 1 1 [.int .u8 cv] rfl rfl ?c1 ?c2 ?c3 ?c4 ?c5 ?_)
          case c1 =>
            intro j u hj
            match j, hj with
            | 0, hj => simp at hj; subst hj; simp [Addr.add]
          case c2 => intro u hu; simp at hu; subst hu; rfl
          case c3 => unfold maxLen; omega
          case c4 => omega
          case c5 => have := hbel.size; simp; omega
          intro v' w1 hown' hgrow _
          have R := dec_keep hB hbel hown HT.out hr1 (by omega) HC.out hown' hgrow
          clear hown' hgrow hown hbel
          go_wp2
          go_roundw
          case rel => exact ⟨r + 1, by omega, by omega, by go_num, R.1, R.2.1, R.2.2⟩
          case measure => simp [intOf]; omega
        · have e1 : r - p = ds.length := by omega
          rw [e1, List.take_of_length_le (Nat.le_refl _)] at hown
          clear e1
          go_wp2
          go_ret
          exact ⟨_, ds, rfl, HD.out, HV.out, hd1, hds, hown, hbel⟩

theorem dec_zero (B L : Nat) (sv : Value) (xs : List Value) (w : World) (hown : w.ownsRow B 5 1 sv L xs) (hB : B ≤ w.heap.size) (hL : L ≤ 100000) :
    Calls Try.prog 10 #[sv, .int .i64 0] w fun e w' => ∃ v' ds, e = .returned v' ∧ digs ds = true ∧ num ds = 0 ∧ 1 ≤ ds.length ∧ ds.length ≤ 18 ∧ w'.ownsRow B 5 1 v' (L + ds.length) (xs ++ bcells ds) ∧ Below B w w' := by
  obtain ⟨i0, hi, hz0, hz1, hz2⟩ := info_parts Try.info5
  go_enter Try.func10, Try.ntmps10
  go_wp2_with (at_builtin; refine wpList_append_own _ rfl _ _ 26 rfl B 5 i0 (.int .u8 0) 1 1 Try.underlying26 hi hz0 hz1 hz2 rfl (by decide) _ _ _ rfl (hown.alloc _) ⟨w.heap.size, 0, none⟩ 1 1 [.int .u8 48] rfl rfl ?c1 ?c2 ?c3 ?c4 ?c5 ?_)
  case c1 =>
    intro j u hj
    match j, hj with
    | 0, hj => simp at hj; subst hj; simp [Addr.add]
  case c2 => intro u hu; simp at hu; subst hu; rfl
  case c3 => unfold maxLen; omega
  case c4 => omega
  case c5 => simp; omega
  intro v' w1 hown' hgrow _
  have hbel : Below B w w1 := ((Below.refl _ _).alloc hB _).grown hgrow (by simp; omega) (fun k hk => (hown.lt k hk).1)
  clear hown hgrow
  go_wp2
  go_ret
  exact ⟨_, [48], rfl, rfl, rfl, by simp, by simp, hown', hbel⟩

/-- 'appendDecimal(dst, n)', dst the call's own: behind dst's bytes come digits that spell n. -/
theorem dec_all (B L : Nat) (sv : Value) (xs : List Value) (n : Int) (w : World) (hown : w.ownsRow B 5 1 sv L xs) (hB : B ≤ w.heap.size) (hn : 0 ≤ n) (hn2 : n ≤ 999999999999999999) (hL : L ≤ 100000) :
    Calls Try.prog 10 #[sv, .int .i64 n] w fun e w' => ∃ v' ds, e = .returned v' ∧ digs ds = true ∧ num ds = n ∧ 1 ≤ ds.length ∧ ds.length ≤ 18 ∧ w'.ownsRow B 5 1 v' (L + ds.length) (xs ++ bcells ds) ∧ Below B w w' := by
  by_cases h : n = 0
  · subst h; exact dec_zero B L sv xs w hown hB hL
  · exact dec_any B L sv xs n w hown hB (by omega) hn2 hL
end Go.Proofs.Qxb6605682a
