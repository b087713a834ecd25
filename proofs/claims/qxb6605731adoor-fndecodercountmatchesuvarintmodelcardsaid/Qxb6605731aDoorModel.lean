/- The contract of 'modelCountB1'. -/
import Derived.Test.Qxb6605731aDoorMem
import Derived.Test.Qxb6605731aDoorPlain
import Derived.Laws.BitsAllLaws
namespace Go.Proofs.Qxb6605731aDoor
open Go.ChangeShapes Go.WideShapes Go.ChangeAt Go.RowKit
open Plain

/-- No byte under 128 among the first ten. -/
theorem mc_miss (ao : Option Addr) (l : List UInt8) (c : Nat) (w : World) (hat : At w ao l) (hl : l.length ≤ 1048576) (hm : ∀ j, j < 10 → j < l.length → 128 ≤ (l.getD j 0).toNat) :
    Calls Tryd.prog 17 #[.slice ao l.length c] w fun e w' => e = .returned (.tuple #[.int .i64 0, .int .i64 0, .bool false]) ∧ w' = w := by
  have HA : Hid (At w ao l) := hat
  have HM : Hid (∀ j, j < 10 → j < l.length → 128 ≤ (l.getD j 0).toNat) := hm
  clear hat hm
  obtain ⟨L, hL1, hL2, hL3⟩ : ∃ L : Nat, L ≤ 10 ∧ L ≤ l.length ∧ (l.length ≤ 10 → L = l.length) ∧ (10 < l.length → L = 10) := by
    by_cases h : 10 < l.length
    · exact ⟨10, by omega, by omega, by omega, by omega⟩
    · exact ⟨l.length, by omega, by omega, by omega, by omega⟩
  by_cases h10 : (10 : Int) < (l.length : Int)
  · have hL : L = 10 := hL3.2 (by omega)
    subst hL
    clear hL3
    go_enter Tryd.func17, Tryd.ntmps17
    go_wp2
    go_loop [5, 7] (fun k i => ∃ j : Nat, j ≤ 10 ∧ i = .int .i64 j ∧ k = .int .i64 (-1)) (fun _ i => 10 - (intOf i).toNat)
    case atStart => exact ⟨0, Nat.zero_le _, rfl, rfl⟩
    case round =>
      obtain ⟨j, hj, rfl, rfl⟩ := hrel
      by_cases hlt : j < 10
      · obtain ⟨g, rfl, _, hc⟩ := HA.out.pos (by omega)
        obtain ⟨cv, hcv⟩ : ∃ cv : Int, cv = ((l.getD j 0).toNat : Int) := ⟨_, rfl⟩
        have hc1 : w.cell? ⟨g, j, none⟩ = some (.int .u8 cv) := by rw [hcv]; exact hc j (by omega)
        have hge : ¬ cv < 128 := by have := HM.out j hlt (by omega); omega
        clear hc hcv
        go_wp2
        go_round
        case rel => exact ⟨j + 1, by omega, by go_num, rfl⟩
        case measure => simp [intOf]; omega
      · go_wp2
        go_ret3
        exact ⟨rfl, rfl⟩
  · have hL : L = l.length := hL3.1 (by omega)
    subst hL
    clear hL3
    go_enter Tryd.func17, Tryd.ntmps17
    go_wp2
    go_loop [5, 7] (fun k i => ∃ j : Nat, j ≤ l.length ∧ i = .int .i64 j ∧ k = .int .i64 (-1)) (fun _ i => l.length - (intOf i).toNat)
    case atStart => exact ⟨0, Nat.zero_le _, rfl, rfl⟩
    case round =>
      obtain ⟨j, hj, rfl, rfl⟩ := hrel
      by_cases hlt : j < l.length
      · obtain ⟨g, rfl, _, hc⟩ := HA.out.pos (by omega)
        obtain ⟨cv, hcv⟩ : ∃ cv : Int, cv = ((l.getD j 0).toNat : Int) := ⟨_, rfl⟩
        have hc1 : w.cell? ⟨g, j, none⟩ = some (.int .u8 cv) := by rw [hcv]; exact hc j (by omega)
        have hge : ¬ cv < 128 := by have := HM.out j (by omega) (by omega); omega
        clear hc hcv
        go_wp2
        go_round
        case rel => exact ⟨j + 1, by omega, by go_num, rfl⟩
        case measure => simp [intOf]; omega
      · go_wp2
        go_ret3
        exact ⟨rfl, rfl⟩

theorem and_127 (n : Nat) (h : n ≤ 255) : bits .and .u8 (n : Int) 127 = ((n % 128 : Nat) : Int) := by
  have := (bits_nat .u8 8 (by decide) wraps_u8 n 127 (by omega) (by decide)).1
  have e : (n &&& 127) = n % 128 := Nat.and_two_pow_sub_one_eq_mod n 7
  rw [e] at this
  exact this
theorem or_add (V r : Nat) (h : r < 128) : (128 * V) ||| r = 128 * V + r := (Nat.two_pow_add_eq_or_of_lt (i := 7) h V).symm
theorem u8_le (c : UInt8) : c.toNat ≤ 255 := by have := c.toNat_lt; omega

/-- 'v<<7 | uint64(b&0x7f)'. -/
theorem step_or (V n : Nat) (hV : 128 * V < 18446744073709551616) (hn : n ≤ 255) :
    bits .or .u64 (IntKind.u64.wrap ((V : Int) * 128)) (IntKind.u64.wrap (bits .and .u8 (n : Int) 127)) = ((n % 128 + 128 * V : Nat) : Int) := by
  rw [and_127 n hn]
  have e1 : IntKind.u64.wrap ((V : Int) * 128) = ((128 * V : Nat) : Int) := by rw [IntKind.wrap_u64]; omega
  have e2 : IntKind.u64.wrap ((n % 128 : Nat) : Int) = ((n % 128 : Nat) : Int) := by rw [IntKind.wrap_u64]; omega
  rw [e1, e2, u64_or_nat _ _ hV (by omega), or_add V _ (by omega)]
  omega

theorem head_step {l : List UInt8} {K q V : Nat} (h : V = val ((l.take (K + 1)).drop (q + 1))) (hq : q < K + 1) (hK : K < l.length) : val ((l.take (K + 1)).drop q) = (l.getD q 0).toNat % 128 + 128 * V := by
  rw [val_back _ q (by simp; omega), ← h]
  have : (l.take (K + 1)).getD q 0 = l.getD q 0 := by rw [List.getD, List.getD, List.getElem?_take_of_lt hq]
  rw [this]

/-- What 'modelCountB1' answers where the first byte under 128 stands at place k. -/
def McPost (l : List UInt8) (k : Nat) (w : World) (e : Ending) (w' : World) : Prop :=
  w' = w ∧ ((val (l.take (k + 1)) + (k + 1) ≤ l.length ∧ e = .returned (.tuple #[.int .i64 (val (l.take (k + 1)) : Int), .int .i64 ((k : Int) + 1), .bool true])) ∨
    (¬ val (l.take (k + 1)) + (k + 1) ≤ l.length ∧ e = .returned (.tuple #[.int .i64 0, .int .i64 0, .bool false])))

set_option maxHeartbeats 2000000 in
/-- The first byte under 128 at place k, and the header spells a uint64. -/
theorem mc_hit (g : Nat) (l : List UInt8) (c k : Nat) (w : World) (hat : At w (some ⟨g, 0, none⟩) l) (hl : l.length ≤ 1048576) (hk : Hit l k) (h9 : k ≤ 9) (hno : ¬ (k = 9 ∧ 1 < (l.getD k 0).toNat)) :
    Calls Tryd.prog 17 #[.slice (some ⟨g, 0, none⟩) l.length c] w fun e w' => McPost l k w e w' := by
  have hkl := hk.1
  have HV : Hid (val (l.take (k + 1)) < 18446744073709551616) := val_hit l k hk h9 hno
  have HC : Hid (∀ j, j < l.length → w.cell? ⟨g, j, none⟩ = some (.int .u8 ((l.getD j 0).toNat : Int))) := by
    obtain ⟨g', hg', _, hc⟩ := hat.pos (by omega)
    cases hg'; exact hc
  have HK : Hid (Hit l k) := hk
  clear hat hk
  obtain ⟨cv, hcv⟩ : ∃ cv : Int, cv = ((l.getD k 0).toNat : Int) := ⟨_, rfl⟩
  have hck : w.cell? ⟨g, k, none⟩ = some (.int .u8 cv) := by rw [hcv]; exact HC.out k hkl
  have hclt : cv < 128 := by have := HK.out.2.2; omega
  have hc0 : 0 ≤ cv := by omega
  have hcase : (((k : Int) == 9) = false ∧ True ∧ True) ∨ (((k : Int) == 9) = true ∧ ¬ 1 < cv ∧ w.cell? ⟨g, 9, none⟩ = some (.int .u8 cv)) := by
    by_cases e : k = 9
    · refine .inr ⟨by simp; omega, ?_, by rw [← e]; exact hck⟩
      have : ¬ 1 < (l.getD k 0).toNat := fun h1 => hno ⟨e, h1⟩
      omega
    · exact .inl ⟨by simp; omega, trivial, trivial⟩
  clear hcv hno
  have hl9 : k < l.length := hkl
  rcases hcase with ⟨hne, hn1, hn9⟩ | ⟨hne, hn1, hn9⟩
  all_goals
   have hlk : (k : Int) == 9 → (9 : Int) < (l.length : Int) := by intro h; simp at h; omega
   by_cases h10 : (10 : Int) < (l.length : Int)
   all_goals
    go_enter Tryd.func17, Tryd.ntmps17
    go_wp2
    go_loop [5, 7] (fun kk i => ∃ j : Nat, j ≤ k ∧ i = .int .i64 j ∧ kk = .int .i64 (-1)) (fun _ i => k - (intOf i).toNat)
    case atStart => exact ⟨0, Nat.zero_le _, rfl, rfl⟩
    case round =>
        obtain ⟨j, hj, rfl, rfl⟩ := hrel
        by_cases hlt : j < k
        · obtain ⟨cj, hcj⟩ : ∃ cj : Int, cj = ((l.getD j 0).toNat : Int) := ⟨_, rfl⟩
          have hc1 : w.cell? ⟨g, j, none⟩ = some (.int .u8 cj) := by rw [hcj]; exact HC.out j (by omega)
          have hge : ¬ cj < 128 := by have := HK.out.2.1 j hlt; omega
          clear hcj
          go_wp2
          go_round
          case rel => exact ⟨j + 1, by omega, by go_num, rfl⟩
          case measure => simp [intOf]; omega
        · have hjk : j = k := by omega
          subst hjk
          clear hj hlt
          go_wp2
          go_loop [8, 9] (fun v i => ∃ (t V : Nat), t ≤ j + 1 ∧ i = .int .i64 ((t : Int) - 1) ∧ v = .int .u64 V ∧ Hid (V = val ((l.take (j + 1)).drop t))) (fun _ i => (intOf i + 1).toNat)
          case atStart => exact ⟨j + 1, 0, Nat.le_refl _, by go_num, rfl, by show _ = _; rw [List.drop_of_length_le (by simp; omega)]; rfl⟩
          case round =>
            obtain ⟨t, V, ht, rfl, rfl, HVt⟩ := hrel
            by_cases ht0 : 1 ≤ t
            · obtain ⟨q, rfl⟩ : ∃ q, t = q + 1 := ⟨t - 1, by omega⟩
              obtain ⟨cq, hcq⟩ : ∃ cq : Int, cq = ((l.getD q 0).toNat : Int) := ⟨_, rfl⟩
              have hc1 : w.cell? ⟨g, q, none⟩ = some (.int .u8 cq) := by rw [hcq]; exact HC.out q (by omega)
              have hcq0 : 0 ≤ cq := by omega
              have hcq1 : cq ≤ 255 := by rw [hcq]; exact byte_le _
              have HQ : Hid (cq = ((l.getD q 0).toNat : Int)) := hcq
              have HS : Hid (val ((l.take (j + 1)).drop q) = (l.getD q 0).toNat % 128 + 128 * V) := head_step HVt.out (by omega) (by omega)
              have HB : Hid (128 * V < 18446744073709551616) := by
                have h1 := HS.out; have h2 := val_drop (l.take (j + 1)) q; have h3 := HV.out
                show _ < _; omega
              clear hcq
              go_wp2
              go_round
              case rel => exact ⟨q, (l.getD q 0).toNat % 128 + 128 * V, by omega, by go_num, by rw [HQ.out, step_or V _ HB.out (u8_le _)], HS.out.symm⟩
              case measure => simp [intOf]
            · have ht1 : t = 0 := by omega
              subst ht1
              have HV2 : Hid (V = val (l.take (j + 1))) := HVt.out
              by_cases hv : V + (j + 1) ≤ l.length
              · have hu : IntKind.u64.wrap ((l.length : Int) - ((j : Int) + 1)) = (l.length : Int) - ((j : Int) + 1) := by rw [IntKind.wrap_u64]; omega
                have hle : ¬ (l.length : Int) - ((j : Int) + 1) < (V : Int) := by omega
                have hV1 : V ≤ 1048576 := by omega
                go_wp2
                go_ret3
                exact ⟨rfl, .inl ⟨by rw [← HV2.out]; exact hv, by rw [← HV2.out]; rfl⟩⟩
              · have hu : IntKind.u64.wrap ((l.length : Int) - ((j : Int) + 1)) = (l.length : Int) - ((j : Int) + 1) := by rw [IntKind.wrap_u64]; omega
                have hle : (l.length : Int) - ((j : Int) + 1) < (V : Int) := by omega
                go_wp2
                go_ret3
                exact ⟨rfl, .inr ⟨by rw [← HV2.out]; exact hv, rfl⟩⟩

set_option maxHeartbeats 1000000 in
/-- A tenth byte above 1: it overflows. -/
theorem mc_over (g : Nat) (l : List UInt8) (c k : Nat) (w : World) (hat : At w (some ⟨g, 0, none⟩) l) (hl : l.length ≤ 1048576) (hk : Hit l k) (h9 : k = 9) (h1 : 1 < (l.getD k 0).toNat) :
    Calls Tryd.prog 17 #[.slice (some ⟨g, 0, none⟩) l.length c] w fun e w' => e = .returned (.tuple #[.int .i64 0, .int .i64 0, .bool false]) ∧ w' = w := by
  have hkl := hk.1
  have HC : Hid (∀ j, j < l.length → w.cell? ⟨g, j, none⟩ = some (.int .u8 ((l.getD j 0).toNat : Int))) := by
    obtain ⟨g', hg', _, hc⟩ := hat.pos (by omega)
    cases hg'; exact hc
  have HK : Hid (Hit l k) := hk
  clear hat hk
  obtain ⟨cv, hcv⟩ : ∃ cv : Int, cv = ((l.getD k 0).toNat : Int) := ⟨_, rfl⟩
  have hck : w.cell? ⟨g, k, none⟩ = some (.int .u8 cv) := by rw [hcv]; exact HC.out k hkl
  have hn9 : w.cell? ⟨g, 9, none⟩ = some (.int .u8 cv) := by rw [← h9]; exact hck
  have hclt : cv < 128 := by have := HK.out.2.2; omega
  have hc1 : 1 < cv := by omega
  have hne : ((k : Int) == 9) = true := by simp; omega
  have hlk : (9 : Int) < (l.length : Int) := by omega
  have hk10 : k ≤ 9 := by omega
  clear hcv h1 h9
  by_cases h10 : (10 : Int) < (l.length : Int)
  all_goals
    go_enter Tryd.func17, Tryd.ntmps17
    go_wp2
    go_loop [5, 7] (fun kk i => ∃ j : Nat, j ≤ k ∧ i = .int .i64 j ∧ kk = .int .i64 (-1)) (fun _ i => k - (intOf i).toNat)
    case atStart => exact ⟨0, Nat.zero_le _, rfl, rfl⟩
    case round =>
        obtain ⟨j, hj, rfl, rfl⟩ := hrel
        by_cases hlt : j < k
        · obtain ⟨cj, hcj⟩ : ∃ cj : Int, cj = ((l.getD j 0).toNat : Int) := ⟨_, rfl⟩
          have hc1 : w.cell? ⟨g, j, none⟩ = some (.int .u8 cj) := by rw [hcj]; exact HC.out j (by omega)
          have hge : ¬ cj < 128 := by have := HK.out.2.1 j hlt; omega
          clear hcj
          go_wp2
          go_round
          case rel => exact ⟨j + 1, by omega, by go_num, rfl⟩
          case measure => simp [intOf]; omega
        · have hjk : j = k := by omega
          subst hjk
          clear hj hlt
          go_wp2
          go_ret3
          exact ⟨rfl, rfl⟩

/-- WHAT THE TWO READERS AGREE ON: either Uvarint reads v in s bytes, s > 0, and the count fits in what follows; or it does not; and 'modelCountB1' answers accordingly. -/
theorem mc_any (ao : Option Addr) (l : List UInt8) (c : Nat) (w : World) (hat : At w ao l) (hl : l.length ≤ 1048576) :
    (∃ v s : Nat, Lib.uvarintDec l = (v, (s : Int)) ∧ 1 ≤ s ∧ v + s ≤ l.length ∧ Calls Tryd.prog 17 #[.slice ao l.length c] w fun e w' => e = .returned (.tuple #[.int .i64 (v : Int), .int .i64 (s : Int), .bool true]) ∧ w' = w) ∨
    (((Lib.uvarintDec l).2 ≤ 0 ∨ (0 < (Lib.uvarintDec l).2 ∧ (Lib.uvarintDec l).2 ≤ (l.length : Int) ∧ (l.length : Int) < (Lib.uvarintDec l).2 + ((Lib.uvarintDec l).1 : Int))) ∧ Calls Tryd.prog 17 #[.slice ao l.length c] w fun e w' => e = .returned (.tuple #[.int .i64 0, .int .i64 0, .bool false]) ∧ w' = w) := by
  rcases find_hit l 10 with ⟨k, hk10, hk⟩ | hm
  · obtain ⟨g, rfl, _⟩ := hat.pos (by have := hk.1; omega)
    by_cases hov : k = 9 ∧ 1 < (l.getD k 0).toNat
    · exact .inr ⟨.inl (from_over l 0 0 k hk (by omega) hov.2), mc_over g l c k w hat hl hk hov.1 hov.2⟩
    · have hd : Lib.uvarintDec l = (val (l.take (k + 1)), ((k + 1 : Nat) : Int)) := by
        have := from_hit l 0 0 k hk (by omega) (by intro h; exact hov ⟨by omega, h.2⟩)
        simpa [Lib.uvarintDec] using this
      have hc := mc_hit g l c k w hat hl hk (by omega) hov
      by_cases hfit : val (l.take (k + 1)) + (k + 1) ≤ l.length
      · refine .inl ⟨_, _, hd, by omega, hfit, hc.mono ?_⟩
        rintro e w' ⟨rfl, ⟨_, rfl⟩ | ⟨h, _⟩⟩
        · exact ⟨rfl, rfl⟩
        · exact absurd hfit h
      · refine .inr ⟨.inr ?_, hc.mono ?_⟩
        · rw [hd]; have := hk.1; refine ⟨?_, ?_, ?_⟩ <;> simp <;> omega
        · rintro e w' ⟨rfl, ⟨h, _⟩ | ⟨_, rfl⟩⟩
          · exact absurd h hfit
          · exact ⟨rfl, rfl⟩
  · exact .inr ⟨.inl (from_miss l 0 0 (by omega) (fun j hj h => hm j (by omega) hj)), mc_miss ao l c w hat hl (fun j h1 h2 => hm j h1 h2)⟩
end Go.Proofs.Qxb6605731aDoor
