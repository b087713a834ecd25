/- The contracts of the decoder: its makers, its fields, 'count'. -/
import Derived.Test.Qxb6605731aDoorMem
import Derived.Test.Qxb6605731aDoorShelf
import Derived.WalkSmall
import Derived.LaidEql
namespace Go.Proofs.Qxb6605731aDoor
open Go.ChangeShapes Go.WideShapes Go.ChangeAt Go.RowKit

theorem nd_any (ao : Option Addr) (n c : Nat) (w : World) :
    Calls Tryd.prog 8 #[.slice ao n c] w fun e w' => e = .returned (.pointer (some ⟨w.heap.size, 0, none⟩)) ∧ w' = w.alloc (.cells #[.slice ao n c, .nilIface] 41) := by
  go_enter Tryd.func8, Tryd.ntmps8
  go_wp2
  go_ret
  exact ⟨rfl, rfl⟩

theorem nc_any (ao : Option Addr) (n c : Nat) (u : TypeId) (x : Value) (w : World) (hg : w.cell? ⟨0, 0, none⟩ = some (.iface u x)) :
    Calls Tryd.prog 16 #[.slice ao n c] w fun e w' => e = .returned (.pointer (some ⟨w.heap.size, 0, none⟩)) ∧ w' = w.alloc (.cells #[.slice ao n c, .iface u x] 41) := by
  go_enter Tryd.func16, Tryd.ntmps16
  go_wp2
  go_ret
  exact ⟨rfl, rfl⟩

theorem dd_any (D : Nat) (v : Value) (w : World) (hd : w.cell? ⟨D, 0, none⟩ = some v) :
    Calls Tryd.prog 13 #[.pointer (some ⟨D, 0, none⟩)] w fun e w' => e = .returned v ∧ w' = w := by
  go_enter Tryd.func13, Tryd.ntmps13
  go_wp2
  go_ret
  exact ⟨rfl, rfl⟩

theorem dc_nil (D : Nat) (w : World) (hd : w.cell? ⟨D, 1, none⟩ = some .nilIface) :
    Calls Tryd.prog 12 #[.pointer (some ⟨D, 0, none⟩)] w fun e w' => e = .returned (.bool false) ∧ w' = w := by
  go_enter Tryd.func12, Tryd.ntmps12
  go_wp2
  go_ret
  exact ⟨rfl, rfl⟩

theorem dc_err (D : Nat) (u : TypeId) (x : Value) (w : World) (hd : w.cell? ⟨D, 1, none⟩ = some (.iface u x)) :
    Calls Tryd.prog 12 #[.pointer (some ⟨D, 0, none⟩)] w fun e w' => e = .returned (.bool true) ∧ w' = w := by
  go_enter Tryd.func12, Tryd.ntmps12
  go_wp2
  go_ret
  exact ⟨rfl, rfl⟩

/-- The bytes l lie at ao, wherever in a block. -/
def Rd (w : World) (ao : Option Addr) (l : List UInt8) : Prop := l = [] ∨ ∃ g o, ao = some ⟨g, o, none⟩ ∧ g < w.heap.size ∧ ∀ j, j < l.length → w.cell? ⟨g, o + j, none⟩ = some (.int .u8 ((l.getD j 0).toNat : Int))

theorem At.rd {w : World} {ao : Option Addr} {l : List UInt8} (h : At w ao l) : Rd w ao l := by
  rcases h with ⟨_, h⟩ | ⟨g, h1, h2, h3⟩
  · exact .inl h
  · exact .inr ⟨g, 0, h1, h2, fun j hj => by rw [Nat.zero_add]; exact h3 j hj⟩

theorem uv_empty (ao : Option Addr) (c : Nat) (w : World) : Calls Tryd.prog 22 #[.slice ao 0 c] w fun e w' => e = .returned (.tuple #[.int .u64 0, .int .i64 0]) ∧ w' = w := by
  go_enter Tryd.func22, Tryd.ntmps22
  go_wp2
  go_loop [10] (fun i => i = .int .i64 0) (fun _ => 0)
  case atStart => rfl
  case round =>
    subst hrel
    go_wp2
    go_ret2
    exact ⟨rfl, rfl⟩

theorem uv_any (ao : Option Addr) (l : List UInt8) (c : Nat) (w : World) (h : Rd w ao l) : Calls Tryd.prog 22 #[.slice ao l.length c] w fun e w' => e = .returned (.tuple #[.int .u64 ((Lib.uvarintDec l).1 : Int), .int .i64 (Lib.uvarintDec l).2]) ∧ w' = w := by
  rcases h with rfl | ⟨g, o, rfl, _, hc⟩
  · exact uv_empty ao c w
  · refine Tryd.binary_Uvarint g o l.length c l w rfl (fun j hj => ?_)
    rw [hc j hj]
    have e : l.getD j 0 = l[j] := by simp [List.getD, hj]
    rw [e]

/-- 'count' where Uvarint reads v in s bytes and v fits in what follows: v; the header is dropped. -/
theorem ct_ok (D g o n c v s : Nat) (w : World) (hd : w.cell? ⟨D, 0, none⟩ = some (.slice (some ⟨g, o, none⟩) n c)) (he : w.cell? ⟨D, 1, none⟩ = some .nilIface) (hf : w.frozen? ⟨D, 0, none⟩ = false)
    (hu : Calls Tryd.prog 22 #[.slice (some ⟨g, o, none⟩) n c] w fun e w' => e = .returned (.tuple #[.int .u64 (v : Int), .int .i64 (s : Int)]) ∧ w' = w)
    (hs : 1 ≤ s) (hv : v + s ≤ n) (hn : n ≤ 100000000) (hc : n ≤ c) (hcm : c ≤ maxLen) :
    Calls Tryd.prog 19 #[.pointer (some ⟨D, 0, none⟩)] w fun e w' => ∃ a2, e = .returned (.int .i64 (v : Int)) ∧ w' = w.setCell ⟨D, 0, none⟩ (.slice (some a2) (n - s) (c - s)) ∧ (s < n → a2 = ⟨g, o + s, none⟩) := by
  have HU : Hid (Calls Tryd.prog 22 #[.slice (some ⟨g, o, none⟩) n c] w fun e w' => e = .returned (.tuple #[.int .u64 (v : Int), .int .i64 (s : Int)]) ∧ w' = w) := hu
  clear hu
  unfold maxLen at hcm
  have hw : IntKind.u64.wrap ((n : Int) - (s : Int)) = (n : Int) - (s : Int) := by rw [IntKind.wrap_u64]; omega
  have hle : ¬ (n : Int) - (s : Int) < (v : Int) := by omega
  by_cases hcs : c = s
  · have hns : n = s := by omega
    subst hcs
    subst hns
    go_enter Tryd.func19, Tryd.ntmps19
    go_wp2_with fail
    refine HU.out.mono ?_
    rintro e w1 ⟨rfl, rfl⟩
    go_wp2
    go_ret
    exact ⟨⟨g, o, none⟩, rfl, by simp, fun h => absurd h (Nat.lt_irrefl _)⟩
  · go_enter Tryd.func19, Tryd.ntmps19
    go_wp2_with fail
    refine HU.out.mono ?_
    rintro e w1 ⟨rfl, rfl⟩
    go_wp2
    go_ret
    exact ⟨_, rfl, rfl, fun _ => rfl⟩

/-- 'count' where it refuses: 0, and the decoder keeps ErrCorrupt. -/
theorem ct_bad (D c : Nat) (ao : Option Addr) (l : List UInt8) (u : TypeId) (x : Value) (w : World) (hd : w.cell? ⟨D, 0, none⟩ = some (.slice ao l.length c)) (he : w.cell? ⟨D, 1, none⟩ = some .nilIface) (hf : w.frozen? ⟨D, 1, none⟩ = false)
    (hg : w.cell? ⟨0, 0, none⟩ = some (.iface u x)) (hr : Rd w ao l) (hn : l.length ≤ 100000000)
    (hbad : (Lib.uvarintDec l).2 ≤ 0 ∨ (0 < (Lib.uvarintDec l).2 ∧ (Lib.uvarintDec l).2 ≤ (l.length : Int) ∧ (l.length : Int) < (Lib.uvarintDec l).2 + ((Lib.uvarintDec l).1 : Int))) :
    Calls Tryd.prog 19 #[.pointer (some ⟨D, 0, none⟩)] w fun e w' => e = .returned (.int .i64 0) ∧ w' = w.setCell ⟨D, 1, none⟩ (.iface u x) := by
  have HU : Hid (Calls Tryd.prog 22 #[.slice ao l.length c] w fun e w' => e = .returned (.tuple #[.int .u64 ((Lib.uvarintDec l).1 : Int), .int .i64 (Lib.uvarintDec l).2]) ∧ w' = w) := uv_any ao l c w hr
  clear hr
  generalize (Lib.uvarintDec l).1 = v at *
  generalize (Lib.uvarintDec l).2 = s at *
  rcases hbad with h | ⟨h0, h1, h2⟩
  · go_enter Tryd.func19, Tryd.ntmps19
    go_wp2_with fail
    refine HU.out.mono ?_
    rintro e w1 ⟨rfl, rfl⟩
    go_wp2
    go_ret
    exact ⟨rfl, rfl⟩
  · have hw : IntKind.u64.wrap ((l.length : Int) - s) = (l.length : Int) - s := by rw [IntKind.wrap_u64]; omega
    have hle : (l.length : Int) - s < (v : Int) := by omega
    have hs : ¬ s ≤ 0 := by omega
    go_enter Tryd.func19, Tryd.ntmps19
    go_wp2_with fail
    refine HU.out.mono ?_
    rintro e w1 ⟨rfl, rfl⟩
    go_wp2
    go_ret
    exact ⟨rfl, rfl⟩

/-- 'count' on a decoder that keeps an error. -/
theorem ct_err (D c : Nat) (ao : Option Addr) (l : List UInt8) (u u2 : TypeId) (x x2 : Value) (w : World) (hd : w.cell? ⟨D, 0, none⟩ = some (.slice ao l.length c)) (he : w.cell? ⟨D, 1, none⟩ = some (.iface u2 x2)) (hf : w.frozen? ⟨D, 1, none⟩ = false)
    (hg : w.cell? ⟨0, 0, none⟩ = some (.iface u x)) (hr : Rd w ao l) :
    Calls Tryd.prog 19 #[.pointer (some ⟨D, 0, none⟩)] w fun e w' => e = .returned (.int .i64 0) ∧ w' = w.setCell ⟨D, 1, none⟩ (.iface u x) := by
  have HU : Hid (Calls Tryd.prog 22 #[.slice ao l.length c] w fun e w' => e = .returned (.tuple #[.int .u64 ((Lib.uvarintDec l).1 : Int), .int .i64 (Lib.uvarintDec l).2]) ∧ w' = w) := uv_any ao l c w hr
  clear hr
  generalize (Lib.uvarintDec l).1 = v at *
  generalize (Lib.uvarintDec l).2 = s at *
  go_enter Tryd.func19, Tryd.ntmps19
  go_wp2_with fail
  refine HU.out.mono ?_
  rintro e w1 ⟨rfl, rfl⟩
  go_wp2
  go_ret
  exact ⟨rfl, rfl⟩
end Go.Proofs.Qxb6605731aDoor
