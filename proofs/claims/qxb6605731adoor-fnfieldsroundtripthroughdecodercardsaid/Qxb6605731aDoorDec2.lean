/- The decoder's state; the doors; 'equalBytesB1'. -/
import Derived.Test.Qxb6605731aDoorDec
import Derived.Deep.QuietTactic
import Derived.BigQuiet
namespace Go.Proofs.Qxb6605731aDoor
open Go.ChangeShapes Go.WideShapes Go.ChangeAt Go.RowKit

theorem Rd.below {w w' : World} {ao : Option Addr} {l : List UInt8} {B : Nat} (h : Rd w ao l) (hb : Below B w w') (hB : ∀ g o, ao = some ⟨g, o, none⟩ → l ≠ [] → g < B) : Rd w' ao l := by
  rcases h with h | ⟨g, o, h1, h2, h3⟩
  · exact .inl h
  · by_cases e : l = []
    · exact .inl e
    · exact .inr ⟨g, o, h1, Nat.lt_of_lt_of_le h2 hb.size, fun j hj => (hb.cell (p := ⟨g, o + j, none⟩) (hB g o h1 e)).trans (h3 j hj)⟩
theorem Rd.drewN {w : World} {ao : Option Addr} {l : List UInt8} (h : Rd w ao l) (q : Nat) : Rd (w.drewN q) ao l := h
theorem Rd.pos {w : World} {ao : Option Addr} {l : List UInt8} (h : Rd w ao l) (hl : 0 < l.length) : ∃ g o, ao = some ⟨g, o, none⟩ ∧ g < w.heap.size ∧ ∀ j, j < l.length → w.cell? ⟨g, o + j, none⟩ = some (.int .u8 ((l.getD j 0).toNat : Int)) := by
  rcases h with rfl | h
  · simp at hl
  · exact h

/-- The decoder at block D: its data and its error. -/
structure Dec (w : World) (D : Nat) (v ev : Value) : Prop where
  lt : D < w.heap.size
  data : w.cell? ⟨D, 0, none⟩ = some v
  err : w.cell? ⟨D, 1, none⟩ = some ev
  fdata : w.frozen? ⟨D, 0, none⟩ = false
  ferr : w.frozen? ⟨D, 1, none⟩ = false

theorem Dec.made (w : World) (v ev : Value) : Dec (w.alloc (.cells #[v, ev] 41)) w.heap.size v ev := by
  refine ⟨by simp, ?_, ?_, ?_, ?_⟩
  · rw [World.cell?_alloc_mark]; rfl
  · rw [World.cell?_alloc_mark]; rfl
  · rw [frozen?_alloc_cells]; simp [World.frozen?]
  · rw [frozen?_alloc_cells]; simp [World.frozen?]
theorem Dec.set0 {w : World} {D : Nat} {v ev : Value} (h : Dec w D v ev) (v' : Value) : Dec (w.setCell ⟨D, 0, none⟩ v') D v' ev ∧ Below D w (w.setCell ⟨D, 0, none⟩ v') := by
  have hb : Below D w (w.setCell ⟨D, 0, none⟩ v') := (Below.refl D w).setCell (p := ⟨D, 0, none⟩) (Nat.le_refl _) v'
  refine ⟨⟨Nat.lt_of_lt_of_le h.lt hb.size, World.cell?_setCell_same _ _ _ h.data, ?_, ?_, ?_⟩, hb⟩
  · rw [World.cell?_setCell_other (w := w) (a := ⟨D, 0, none⟩) (b := ⟨D, 1, none⟩) (h := by simp)]; exact h.err
  · rw [World.frozen?_setCell]; exact h.fdata
  · rw [World.frozen?_setCell]; exact h.ferr
theorem Dec.set1 {w : World} {D : Nat} {v ev : Value} (h : Dec w D v ev) (ev' : Value) : Dec (w.setCell ⟨D, 1, none⟩ ev') D v ev' ∧ Below D w (w.setCell ⟨D, 1, none⟩ ev') := by
  have hb : Below D w (w.setCell ⟨D, 1, none⟩ ev') := (Below.refl D w).setCell (p := ⟨D, 1, none⟩) (Nat.le_refl _) ev'
  refine ⟨⟨Nat.lt_of_lt_of_le h.lt hb.size, ?_, World.cell?_setCell_same _ _ _ h.err, ?_, ?_⟩, hb⟩
  · rw [World.cell?_setCell_other (w := w) (a := ⟨D, 1, none⟩) (b := ⟨D, 0, none⟩) (h := by simp)]; exact h.data
  · rw [World.frozen?_setCell]; exact h.fdata
  · rw [World.frozen?_setCell]; exact h.ferr
theorem Dec.drewN {w : World} {D : Nat} {v ev : Value} (h : Dec w D v ev) (q : Nat) : Dec (w.drewN q) D v ev := ⟨h.lt, h.data, h.err, h.fdata, h.ferr⟩

/-- The door 'ZZdecoderCount'. -/
theorem zc_door (p : Value) (w : World) (R : Int → World → Prop) (h : Calls Tryd.prog 19 #[p] w fun e w' => ∃ v, e = .returned (.int .i64 v) ∧ R v w') :
    Calls Tryd.prog 9 #[p] w fun e w' => ∃ v, e = .returned (.int .i64 v) ∧ R v w' := by
  have H : Hid (Calls Tryd.prog 19 #[p] w fun e w' => ∃ v, e = .returned (.int .i64 v) ∧ R v w') := h
  clear h
  go_enter Tryd.func9, Tryd.ntmps9
  go_wp2_with fail
  refine H.out.mono ?_
  rintro e w1 ⟨v, rfl, hR⟩
  have HR : Hid (R v w1) := hR
  clear hR
  go_wp2
  go_ret
  exact ⟨v, rfl, HR.out⟩

theorem zc_ok (D g o c v s : Nat) (l : List UInt8) (w : World) (hD : Dec w D (.slice (some ⟨g, o, none⟩) l.length c) .nilIface) (hr : Rd w (some ⟨g, o, none⟩) l) (hd : Lib.uvarintDec l = (v, (s : Int)))
    (hs : 1 ≤ s) (hv : v + s ≤ l.length) (hn : l.length ≤ 100000000) (hc : l.length ≤ c) (hcm : c ≤ maxLen) :
    Calls Tryd.prog 9 #[.pointer (some ⟨D, 0, none⟩)] w fun e w' => ∃ a2, e = .returned (.int .i64 (v : Int)) ∧ Dec w' D (.slice (some a2) (l.length - s) (c - s)) .nilIface ∧ (s < l.length → a2 = ⟨g, o + s, none⟩) ∧ Below D w w' := by
  have hu := uv_any (some ⟨g, o, none⟩) l c w hr
  rw [hd] at hu
  refine (zc_door _ _ (fun v' w' => v' = (v : Int) ∧ ∃ a2, Dec w' D (.slice (some a2) (l.length - s) (c - s)) .nilIface ∧ (s < l.length → a2 = ⟨g, o + s, none⟩) ∧ Below D w w') ?_).mono ?_
  · refine (ct_ok D g o l.length c v s w hD.data hD.err hD.fdata hu hs hv hn hc hcm).mono ?_
    rintro e w' ⟨a2, rfl, rfl, ha⟩
    exact ⟨_, rfl, rfl, a2, (hD.set0 _).1, ha, (hD.set0 _).2⟩
  · rintro e w' ⟨_, rfl, rfl, a2, h1, h2, h3⟩
    exact ⟨a2, rfl, h1, h2, h3⟩

theorem zc_bad (D c : Nat) (ao : Option Addr) (l : List UInt8) (u : TypeId) (x : Value) (w : World) (hD : Dec w D (.slice ao l.length c) .nilIface) (hg : w.cell? ⟨0, 0, none⟩ = some (.iface u x)) (hr : Rd w ao l) (hn : l.length ≤ 100000000)
    (hbad : (Lib.uvarintDec l).2 ≤ 0 ∨ (0 < (Lib.uvarintDec l).2 ∧ (Lib.uvarintDec l).2 ≤ (l.length : Int) ∧ (l.length : Int) < (Lib.uvarintDec l).2 + ((Lib.uvarintDec l).1 : Int))) :
    Calls Tryd.prog 9 #[.pointer (some ⟨D, 0, none⟩)] w fun e w' => e = .returned (.int .i64 0) ∧ Dec w' D (.slice ao l.length c) (.iface u x) ∧ Below D w w' := by
  refine (zc_door _ _ (fun v' w' => v' = 0 ∧ Dec w' D (.slice ao l.length c) (.iface u x) ∧ Below D w w') ?_).mono ?_
  · refine (ct_bad D c ao l u x w hD.data hD.err hD.ferr hg hr hn hbad).mono ?_
    rintro e w' ⟨rfl, rfl⟩
    exact ⟨_, rfl, rfl, (hD.set1 _).1, (hD.set1 _).2⟩
  · rintro e w' ⟨_, rfl, rfl, h1, h2⟩
    exact ⟨rfl, h1, h2⟩

theorem zc_err (D c : Nat) (ao : Option Addr) (l : List UInt8) (u u2 : TypeId) (x x2 : Value) (w : World) (hD : Dec w D (.slice ao l.length c) (.iface u2 x2)) (hg : w.cell? ⟨0, 0, none⟩ = some (.iface u x)) (hr : Rd w ao l) :
    Calls Tryd.prog 9 #[.pointer (some ⟨D, 0, none⟩)] w fun e w' => e = .returned (.int .i64 0) ∧ Dec w' D (.slice ao l.length c) (.iface u x) ∧ Below D w w' := by
  refine (zc_door _ _ (fun v' w' => v' = 0 ∧ Dec w' D (.slice ao l.length c) (.iface u x) ∧ Below D w w') ?_).mono ?_
  · refine (ct_err D c ao l u u2 x x2 w hD.data hD.err hD.ferr hg hr).mono ?_
    rintro e w' ⟨rfl, rfl⟩
    exact ⟨_, rfl, rfl, (hD.set1 _).1, (hD.set1 _).2⟩
  · rintro e w' ⟨_, rfl, rfl, h1, h2⟩
    exact ⟨rfl, h1, h2⟩

set_option maxHeartbeats 1000000 in
/-- 'equalBytesB1' at two slices of the same bytes. -/
theorem eq_same (ao bo : Option Addr) (c1 c2 : Nat) (l : List UInt8) (w : World) (ha : Rd w ao l) (hb : Rd w bo l) (hn : l.length ≤ 100000000) :
    Calls Tryd.prog 11 #[.slice ao l.length c1, .slice bo l.length c2] w fun e w' => ∃ q, e = .returned (.bool true) ∧ w' = w.drewN q := by
  have HA : Hid (Rd w ao l) := ha
  have HB : Hid (Rd w bo l) := hb
  clear ha hb
  go_enter Tryd.func11, Tryd.ntmps11
  go_wp2
  go_loopw [5] (fun i wr => ∃ k q : Nat, k ≤ l.length ∧ i = .int .i64 k ∧ wr = w.drewN q) (fun i _ => l.length - (intOf i).toNat)
  case atStart => exact ⟨0, 0, Nat.zero_le _, rfl, rfl⟩
  case round =>
    obtain ⟨k, q, hk, rfl, rfl⟩ := hrel
    by_cases hlt : k < l.length
    · obtain ⟨g1, o1, h1, _, hc1⟩ := HA.out.pos (by omega)
      obtain ⟨g2, o2, h2, _, hc2⟩ := HB.out.pos (by omega)
      obtain ⟨cv, hcv⟩ : ∃ cv : Int, cv = ((l.getD k 0).toNat : Int) := ⟨_, rfl⟩
      have k1 : w.cell? ⟨g1, o1 + k, none⟩ = some (.int .u8 cv) := by rw [hcv]; exact hc1 k hlt
      have k2 : w.cell? ⟨g2, o2 + k, none⟩ = some (.int .u8 cv) := by rw [hcv]; exact hc2 k hlt
      have i1 : (k : Int) < (l.length : Int) := by omega
      subst h1
      subst h2
      clear hc1 hc2 hcv
      go_wp2
      go_quiet (fail)
      go_wp2
      go_roundw
      case rel => exact ⟨k + 1, _, by omega, by go_num, rfl⟩
      case measure => simp [intOf]; omega
    · go_wp2
      go_ret
      exact ⟨q, rfl, rfl⟩
end Go.Proofs.Qxb6605731aDoor
