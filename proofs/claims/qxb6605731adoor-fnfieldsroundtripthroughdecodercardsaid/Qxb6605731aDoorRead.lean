/- The contracts of the decoder's 'bytes' and of its door. -/
import Derived.Test.Qxb6605731aDoorDec2
namespace Go.Proofs.Qxb6605731aDoor
open Go.ChangeShapes Go.WideShapes Go.ChangeAt Go.RowKit

theorem by_ok (D N c m : Nat) (a : Addr) (w : World) (hd : w.cell? ⟨D, 0, none⟩ = some (.slice (some a) N c)) (he : w.cell? ⟨D, 1, none⟩ = some .nilIface) (hf : w.frozen? ⟨D, 0, none⟩ = false) (hm : m ≤ N) (hc : N ≤ c) (hcm : c ≤ maxLen) :
    Calls Tryd.prog 20 #[.pointer (some ⟨D, 0, none⟩), .int .i64 (m : Int)] w fun e w' => ∃ a3, e = .returned (.slice (some a) m c) ∧ w' = w.setCell ⟨D, 0, none⟩ (.slice (some a3) (N - m) (c - m)) ∧ (m < N → a3 = a.add m) := by
  unfold maxLen at hcm
  have hle : ¬ (N : Int) < (m : Int) := by omega
  by_cases hcs : c = m
  · have hNm : N = m := by omega
    subst hcs
    subst hNm
    go_enter Tryd.func20, Tryd.ntmps20
    go_wp2
    go_ret
    exact ⟨rfl, _, rfl⟩
  · go_enter Tryd.func20, Tryd.ntmps20
    go_wp2
    go_ret
    exact ⟨rfl, _, rfl, fun _ => rfl⟩

/-- 'ZZdecoderBytes(d, m)', m bytes left at least: the next m bytes; they are dropped. -/
theorem zb_ok (D N c m : Nat) (a : Addr) (w : World) (hD : Dec w D (.slice (some a) N c) .nilIface) (hm : m ≤ N) (hc : N ≤ c) (hcm : c ≤ maxLen) :
    Calls Tryd.prog 10 #[.pointer (some ⟨D, 0, none⟩), .int .i64 (m : Int)] w fun e w' => ∃ a3, e = .returned (.slice (some a) m c) ∧ Dec w' D (.slice (some a3) (N - m) (c - m)) .nilIface ∧ (m < N → a3 = a.add m) ∧ Below D w w' := by
  have H : Hid (Calls Tryd.prog 20 #[.pointer (some ⟨D, 0, none⟩), .int .i64 (m : Int)] w fun e w' => ∃ a3, e = .returned (.slice (some a) m c) ∧ w' = w.setCell ⟨D, 0, none⟩ (.slice (some a3) (N - m) (c - m)) ∧ (m < N → a3 = a.add m)) := by_ok D N c m a w hD.data hD.err hD.fdata hm hc hcm
  have HD : Hid (Dec w D (.slice (some a) N c) .nilIface) := hD
  clear hD
  go_enter Tryd.func10, Tryd.ntmps10
  go_wp2_with fail
  refine H.out.mono ?_
  rintro e w1 ⟨a3, rfl, hw, ha⟩
  have HA : Hid (m < N → a3 = a.add m) := ha
  have HD1 : Hid (Dec w1 D (.slice (some a3) (N - m) (c - m)) .nilIface ∧ Below D w w1) := by rw [hw]; exact HD.out.set0 _
  clear hw ha
  go_wp2
  go_ret
  exact ⟨a3, rfl, HD1.out.1, HA.out, HD1.out.2⟩
end Go.Proofs.Qxb6605731aDoor
