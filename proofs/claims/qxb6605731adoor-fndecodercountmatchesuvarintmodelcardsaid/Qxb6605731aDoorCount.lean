/- The walk of 'FnDecoderCountMatchesUvarintModel'. -/
import Derived.Test.Qxb6605731aDoorModel
import Derived.Test.Qxb6605731aDoorDec2
namespace Go.Proofs.Qxb6605731aDoor
open Go.ChangeShapes Go.WideShapes Go.ChangeAt Go.RowKit
open Plain

theorem mc_good (ao : Option Addr) (l : List UInt8) (c v s : Nat) (w : World) (hat : At w ao l) (hl : l.length ≤ 1048576) (hd : Lib.uvarintDec l = (v, (s : Int))) (hs : 1 ≤ s) (hv : v + s ≤ l.length) :
    Calls Tryd.prog 17 #[.slice ao l.length c] w fun e w' => e = .returned (.tuple #[.int .i64 (v : Int), .int .i64 (s : Int), .bool true]) ∧ w' = w := by
  rcases mc_any ao l c w hat hl with ⟨v', s', hd', _, _, h⟩ | ⟨hbad, _⟩
  · rw [hd] at hd'
    simp at hd'
    obtain ⟨rfl, hs'⟩ := hd'
    obtain rfl : s = s' := by omega
    exact h
  · rw [hd] at hbad; simp at hbad; omega

theorem mc_bad (ao : Option Addr) (l : List UInt8) (c : Nat) (w : World) (hat : At w ao l) (hl : l.length ≤ 1048576)
    (hbad : (Lib.uvarintDec l).2 ≤ 0 ∨ (0 < (Lib.uvarintDec l).2 ∧ (Lib.uvarintDec l).2 ≤ (l.length : Int) ∧ (l.length : Int) < (Lib.uvarintDec l).2 + ((Lib.uvarintDec l).1 : Int))) :
    Calls Tryd.prog 17 #[.slice ao l.length c] w fun e w' => e = .returned (.tuple #[.int .i64 0, .int .i64 0, .bool false]) ∧ w' = w := by
  rcases mc_any ao l c w hat hl with ⟨v', s', hd', _, _, h⟩ | ⟨_, h⟩
  · rw [hd'] at hbad; simp at hbad; omega
  · exact h

theorem zb_yes (ao : Option Addr) (n c : Nat) (b : Bool) (h : n ≤ 1048576) (w : World) : Calls Tryd.prog 14 #[.slice ao n c, .bool b] w fun e w' => e = .returned (.bool true) ∧ w' = w := by
  go_enter Tryd.func14, Tryd.ntmps14
  go_wp2
  go_ret
  exact ⟨rfl, rfl⟩
theorem zb_no (ao : Option Addr) (n c : Nat) (b : Bool) (h : 1048576 < n) (w : World) : Calls Tryd.prog 14 #[.slice ao n c, .bool b] w fun e w' => e = .returned (.bool false) ∧ w' = w := by
  go_enter Tryd.func14, Tryd.ntmps14
  go_wp2
  go_ret
  exact ⟨rfl, rfl⟩

theorem count_out (ao : Option Addr) (n c : Nat) (b : Bool) (h : 1048576 < n) (w : World) :
    Calls Tryd.prog 4 #[.slice ao n c, .bool b] w fun e w' => e = .returned (.bool true) ∧ Below w.heap.size w w' := by
  go_enter Tryd.func4, Tryd.ntmps4
  go_wp2_with (go_at_call 14; refine (zb_no _ _ _ _ h _).mono ?_; rintro e w1 ⟨rfl, rfl⟩)
  go_ret
  exact ⟨rfl, Below.refl _ _⟩

theorem lt_of_cell {w : World} {b o : Nat} {v : Value} (h : w.cell? ⟨b, o, none⟩ = some v) : b < w.heap.size := World.block_lt_of_cell? w _ h

set_option maxHeartbeats 2000000 in
/-- A decoder that keeps an error already. -/
theorem count_corrupt (ao : Option Addr) (c : Nat) (l : List UInt8) (u : TypeId) (x : Value) (w : World) (h0 : Came w ao c l) (hl : l.length ≤ 1048576) (hg : w.cell? ⟨0, 0, none⟩ = some (.iface u x)) :
    Calls Tryd.prog 4 #[.slice ao l.length c, .bool true] w fun e w' => e = .returned (.bool true) ∧ Below w.heap.size w w' := by
  have H0 : Hid (Came w ao c l) := h0
  have HG : Hid (w.cell? ⟨0, 0, none⟩ = some (.iface u x)) := hg
  clear h0 hg
  go_enter Tryd.func4, Tryd.ntmps4
  go_wp2_with fail
  refine (zb_yes _ _ _ _ hl _).mono ?_
  rintro e w' ⟨rfl, rfl⟩
  go_wp2_with fail
  refine (clone_any ao c l hl _ H0.out).mono ?_
  rintro e w1 ⟨bo, rfl, hat1, hb1⟩
  have HA1 : Hid (At w1 bo l) := hat1
  have HB1 : Hid (Below w'.heap.size w' w1) := hb1
  have HG1 : Hid (w1.cell? ⟨0, 0, none⟩ = some (.iface u x)) := (hb1.cell (p := ⟨0, 0, none⟩) (lt_of_cell HG.out)).trans HG.out
  clear hat1 hb1
  go_wp2_with fail
  refine (nd_any bo _ _ _).mono ?_
  rintro e w2 ⟨rfl, hw2⟩
  have HB2 : Hid (Below w1.heap.size w1 w2) := by rw [hw2]; exact (Below.refl _ _).alloc (Nat.le_refl _) _
  have HG2 : Hid (w2.cell? ⟨0, 0, none⟩ = some (.iface u x)) := (HB2.out.cell (p := ⟨0, 0, none⟩) (lt_of_cell HG1.out)).trans HG1.out
  clear hw2
  go_wp2_with fail
  refine (nc_any bo _ _ u x _ HG2.out).mono ?_
  rintro e w3 ⟨rfl, hw3⟩
  have HB3 : Hid (Below w2.heap.size w2 w3) := by rw [hw3]; exact (Below.refl _ _).alloc (Nat.le_refl _) _
  have HD3 : Hid (Dec w3 w2.heap.size (.slice bo l.length l.length) (.iface u x)) := by rw [hw3]; exact Dec.made _ _ _
  have HG3 : Hid (w3.cell? ⟨0, 0, none⟩ = some (.iface u x)) := (HB3.out.cell (p := ⟨0, 0, none⟩) (lt_of_cell HG2.out)).trans HG2.out
  have HA3 : Hid (At w3 bo l) := (HA1.out.below HB2.out).below HB3.out
  clear hw3
  go_wp2_with fail
  refine (zc_err w2.heap.size l.length bo l u u x x _ HD3.out HG3.out HA3.out.rd).mono ?_
  rintro e w4 ⟨rfl, hD4, hb4⟩
  have HD4 : Hid (Dec w4 w2.heap.size (.slice bo l.length l.length) (.iface u x)) := hD4
  have HA4 : Hid (At w4 bo l) := by
    have h2 := HA1.out.below HB2.out
    have h24 : Below w2.heap.size w2 w4 := HB3.out.trans hb4
    exact h2.below h24
  have HB4 : Hid (Below w'.heap.size w' w4) := by
    have h12 := HB1.out.trans (HB2.out.mono HB1.out.size)
    exact h12.trans ((HB3.out.trans hb4).mono h12.size)
  clear hD4 hb4
  go_wp2_with fail
  refine (dd_any w2.heap.size _ _ HD4.out.data).mono ?_
  rintro e w5 ⟨rfl, rfl⟩
  go_wp2_with fail
  refine (dc_err w2.heap.size u x _ HD4.out.err).mono ?_
  rintro e w6 ⟨rfl, rfl⟩
  go_wp2_with fail
  rcases mc_any bo l l.length w6 HA4.out hl with ⟨v, s, _, _, _, hm⟩ | ⟨_, hm⟩
  all_goals
    refine hm.mono ?_
    clear hm
    rintro e w7 ⟨rfl, rfl⟩
    go_wp2_with fail
    refine (eq_same bo bo l.length l.length l _ HA4.out.rd HA4.out.rd (by omega)).mono ?_
    rintro e w8 ⟨q, rfl, rfl⟩
    go_wp2
    go_ret
    exact ⟨rfl, below_drewN HB4.out q⟩

set_option maxHeartbeats 2000000 in
/-- A clean decoder over bytes that the format refuses. -/
theorem count_refused (ao : Option Addr) (c : Nat) (l : List UInt8) (u : TypeId) (x : Value) (w : World) (h0 : Came w ao c l) (hl : l.length ≤ 1048576) (hg : w.cell? ⟨0, 0, none⟩ = some (.iface u x))
    (hbad : (Lib.uvarintDec l).2 ≤ 0 ∨ (0 < (Lib.uvarintDec l).2 ∧ (Lib.uvarintDec l).2 ≤ (l.length : Int) ∧ (l.length : Int) < (Lib.uvarintDec l).2 + ((Lib.uvarintDec l).1 : Int))) :
    Calls Tryd.prog 4 #[.slice ao l.length c, .bool false] w fun e w' => e = .returned (.bool true) ∧ Below w.heap.size w w' := by
  have H0 : Hid (Came w ao c l) := h0
  have HG : Hid (w.cell? ⟨0, 0, none⟩ = some (.iface u x)) := hg
  have HX : Hid ((Lib.uvarintDec l).2 ≤ 0 ∨ (0 < (Lib.uvarintDec l).2 ∧ (Lib.uvarintDec l).2 ≤ (l.length : Int) ∧ (l.length : Int) < (Lib.uvarintDec l).2 + ((Lib.uvarintDec l).1 : Int))) := hbad
  clear h0 hg hbad
  go_enter Tryd.func4, Tryd.ntmps4
  go_wp2_with fail
  refine (zb_yes _ _ _ _ hl _).mono ?_
  rintro e w' ⟨rfl, rfl⟩
  go_wp2_with fail
  refine (clone_any ao c l hl _ H0.out).mono ?_
  rintro e w1 ⟨bo, rfl, hat1, hb1⟩
  have HA1 : Hid (At w1 bo l) := hat1
  have HB1 : Hid (Below w'.heap.size w' w1) := hb1
  have HG1 : Hid (w1.cell? ⟨0, 0, none⟩ = some (.iface u x)) := (hb1.cell (p := ⟨0, 0, none⟩) (lt_of_cell HG.out)).trans HG.out
  clear hat1 hb1
  go_wp2_with fail
  refine (nd_any bo _ _ _).mono ?_
  rintro e w2 ⟨rfl, hw2⟩
  have HB2 : Hid (Below w1.heap.size w1 w2) := by rw [hw2]; exact (Below.refl _ _).alloc (Nat.le_refl _) _
  have HD2 : Hid (Dec w2 w1.heap.size (.slice bo l.length l.length) .nilIface) := by rw [hw2]; exact Dec.made _ _ _
  have HG2 : Hid (w2.cell? ⟨0, 0, none⟩ = some (.iface u x)) := (HB2.out.cell (p := ⟨0, 0, none⟩) (lt_of_cell HG1.out)).trans HG1.out
  have HA2 : Hid (At w2 bo l) := HA1.out.below HB2.out
  clear hw2
  go_wp2_with fail
  refine (zc_bad w1.heap.size l.length bo l u x _ HD2.out HG2.out HA2.out.rd (by omega) HX.out).mono ?_
  rintro e w4 ⟨rfl, hD4, hb4⟩
  have HD4 : Hid (Dec w4 w1.heap.size (.slice bo l.length l.length) (.iface u x)) := hD4
  have HB14 : Hid (Below w1.heap.size w1 w4) := HB2.out.trans hb4
  have HA4 : Hid (At w4 bo l) := HA1.out.below HB14.out
  have HB4 : Hid (Below w'.heap.size w' w4) := HB1.out.trans (HB14.out.mono HB1.out.size)
  clear hD4 hb4
  go_wp2_with fail
  refine (dd_any w1.heap.size _ _ HD4.out.data).mono ?_
  rintro e w5 ⟨rfl, rfl⟩
  go_wp2_with fail
  refine (dc_err w1.heap.size u x _ HD4.out.err).mono ?_
  rintro e w6 ⟨rfl, rfl⟩
  go_wp2_with fail
  refine (mc_bad bo l l.length _ HA4.out hl HX.out).mono ?_
  rintro e w7 ⟨rfl, rfl⟩
  go_wp2_with fail
  refine (eq_same bo bo l.length l.length l _ HA4.out.rd HA4.out.rd (by omega)).mono ?_
  rintro e w8 ⟨q, rfl, rfl⟩
  go_wp2
  go_ret
  exact ⟨rfl, below_drewN HB4.out q⟩

set_option maxHeartbeats 2000000 in
/-- A clean decoder over bytes that the format accepts. -/
theorem count_taken (ao : Option Addr) (c v s : Nat) (l : List UInt8) (w : World) (h0 : Came w ao c l) (hl : l.length ≤ 1048576) (hd : Lib.uvarintDec l = (v, (s : Int))) (hs : 1 ≤ s) (hv : v + s ≤ l.length) :
    Calls Tryd.prog 4 #[.slice ao l.length c, .bool false] w fun e w' => e = .returned (.bool true) ∧ Below w.heap.size w w' := by
  have H0 : Hid (Came w ao c l) := h0
  have HX : Hid (Lib.uvarintDec l = (v, (s : Int))) := hd
  clear h0 hd
  go_enter Tryd.func4, Tryd.ntmps4
  go_wp2_with fail
  refine (zb_yes _ _ _ _ hl _).mono ?_
  rintro e w' ⟨rfl, rfl⟩
  go_wp2_with fail
  refine (clone_any ao c l hl _ H0.out).mono ?_
  rintro e w1 ⟨bo, rfl, hat1, hb1⟩
  obtain ⟨g, hbo, hg, _⟩ := hat1.pos (by omega)
  subst hbo
  have HA1 : Hid (At w1 (some ⟨g, 0, none⟩) l) := hat1
  have HB1 : Hid (Below w'.heap.size w' w1) := hb1
  clear hat1 hb1
  go_wp2_with fail
  refine (nd_any _ _ _ _).mono ?_
  rintro e w2 ⟨rfl, hw2⟩
  have HB2 : Hid (Below w1.heap.size w1 w2) := by rw [hw2]; exact (Below.refl _ _).alloc (Nat.le_refl _) _
  have HD2 : Hid (Dec w2 w1.heap.size (.slice (some ⟨g, 0, none⟩) l.length l.length) .nilIface) := by rw [hw2]; exact Dec.made _ _ _
  have HA2 : Hid (At w2 (some ⟨g, 0, none⟩) l) := HA1.out.below HB2.out
  clear hw2
  go_wp2_with fail
  refine (zc_ok w1.heap.size g 0 l.length v s l _ HD2.out HA2.out.rd HX.out hs hv (by omega) (Nat.le_refl _) (by unfold maxLen; omega)).mono ?_
  rintro e w4 ⟨a2, rfl, hD4, ha2, hb4⟩
  obtain ⟨m, hm⟩ : ∃ m, m = l.length - s := ⟨_, rfl⟩
  rw [← hm] at hD4
  have HD4 : Hid (Dec w4 w1.heap.size (.slice (some a2) m m) .nilIface) := hD4
  have HB14 : Hid (Below w1.heap.size w1 w4) := HB2.out.trans hb4
  have HA4 : Hid (At w4 (some ⟨g, 0, none⟩) l) := HA1.out.below HB14.out
  have HB4 : Hid (Below w'.heap.size w' w4) := HB1.out.trans (HB14.out.mono HB1.out.size)
  have HA : Hid (s < l.length → a2 = ⟨g, 0 + s, none⟩) := ha2
  have hms : m + s ≤ l.length := by omega
  have hne : ((m : Int) != (l.length : Int) - (s : Int)) = false := by simp; omega
  have HMS : Hid (m + s = l.length) := by show _ = _; omega
  clear hD4 hb4 ha2 hm
  go_wp2_with fail
  refine (dd_any w1.heap.size _ _ HD4.out.data).mono ?_
  rintro e w5 ⟨rfl, rfl⟩
  go_wp2_with fail
  refine (dc_nil w1.heap.size _ HD4.out.err).mono ?_
  rintro e w6 ⟨rfl, rfl⟩
  go_wp2_with fail
  refine (mc_good _ l l.length v s _ HA4.out hl HX.out hs hv).mono ?_
  rintro e w7 ⟨rfl, rfl⟩
  go_wp2
  go_loopw [12] (fun i wr => ∃ j q : Nat, j ≤ m ∧ i = .int .i64 j ∧ wr = w7.drewN q) (fun i _ => m - (intOf i).toNat)
  case atStart => exact ⟨0, 0, Nat.zero_le _, rfl, rfl⟩
  case round =>
    obtain ⟨j, q, hj, rfl, rfl⟩ := hrel
    by_cases hlt : j < m
    · have hA2 : a2 = ⟨g, s, none⟩ := by rw [HA.out (by omega), Nat.zero_add]
      obtain ⟨g', hg', _, hc⟩ := HA4.out.pos (by omega)
      cases hg'
      obtain ⟨cv, hcv⟩ : ∃ cv : Int, cv = ((l.getD (s + j) 0).toNat : Int) := ⟨_, rfl⟩
      have k1 : w7.cell? ⟨g, s + j, none⟩ = some (.int .u8 cv) := by rw [hcv]; exact hc (s + j) (by omega)
      have i1 : (j : Int) < (m : Int) := by omega
      have i2 : (s : Int) + (j : Int) < (l.length : Int) := by omega
      subst hA2
      clear hc hcv
      go_wp2
      go_quiet (fail)
      go_wp2
      go_roundw
      case rel => exact ⟨j + 1, _, by omega, by go_num, rfl⟩
      case measure => simp [intOf]; omega
    · go_wp2
      go_ret
      exact ⟨rfl, below_drewN HB4.out q⟩

/-- The whole law inside its bound. -/
theorem count_in (ao : Option Addr) (c : Nat) (l : List UInt8) (b : Bool) (u : TypeId) (x : Value) (w : World) (h0 : Came w ao c l) (hl : l.length ≤ 1048576) (hg : w.cell? ⟨0, 0, none⟩ = some (.iface u x)) :
    Calls Tryd.prog 4 #[.slice ao l.length c, .bool b] w fun e w' => e = .returned (.bool true) ∧ Below w.heap.size w w' := by
  cases b with
  | true => exact count_corrupt ao c l u x w h0 hl hg
  | false =>
    have hk : (∃ v s : Nat, Lib.uvarintDec l = (v, (s : Int)) ∧ 1 ≤ s ∧ v + s ≤ l.length) ∨ ((Lib.uvarintDec l).2 ≤ 0 ∨ (0 < (Lib.uvarintDec l).2 ∧ (Lib.uvarintDec l).2 ≤ (l.length : Int) ∧ (l.length : Int) < (Lib.uvarintDec l).2 + ((Lib.uvarintDec l).1 : Int))) := by
      rcases find_hit l 10 with ⟨k, hk10, hk⟩ | hm
      · by_cases hov : k = 9 ∧ 1 < (l.getD k 0).toNat
        · exact .inr (.inl (from_over l 0 0 k hk (by omega) hov.2))
        · have hd : Lib.uvarintDec l = (val (l.take (k + 1)), ((k + 1 : Nat) : Int)) := by
            have := from_hit l 0 0 k hk (by omega) (by intro h; exact hov ⟨by omega, h.2⟩)
            simpa [Lib.uvarintDec] using this
          by_cases hfit : val (l.take (k + 1)) + (k + 1) ≤ l.length
          · exact .inl ⟨_, _, hd, by omega, hfit⟩
          · refine .inr (.inr ?_)
            rw [hd]; have := hk.1; refine ⟨?_, ?_, ?_⟩ <;> simp <;> omega
      · exact .inr (.inl (from_miss l 0 0 (by omega) (fun j hj h => hm j (by omega) hj)))
    rcases hk with ⟨v, s, hd, hs, hv⟩ | hbad
    · exact count_taken ao c v s l w h0 hl hd hs hv
    · exact count_refused ao c l u x w h0 hl hg hbad
end Go.Proofs.Qxb6605731aDoor
