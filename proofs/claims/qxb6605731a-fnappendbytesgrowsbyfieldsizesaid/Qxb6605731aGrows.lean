/- The walk of 'FnAppendBytesGrowsByFieldSize'. -/
import Derived.Test.Qxb6605731aField
import Derived.Test.Qxb6605731aAppend
import Derived.WalkSmall
import Derived.Deep.QuietTactic
import Derived.BigQuiet
namespace Go.Proofs.Qxb6605731a
open Go.ChangeShapes Go.WideShapes Go.ChangeAt Go.RowKit
open Plain

theorem zb_yes (a0 a1 : Option Addr) (n0 n1 c0 c1 : Nat) (h : n0 + n1 ≤ 1048576) (w : World) :
    Calls Try.prog 7 #[.slice a0 n0 c0, .slice a1 n1 c1] w fun e w' => e = .returned (.bool true) ∧ w' = w := by
  go_enter Try.func7, Try.ntmps7
  go_wp2
  go_ret
  exact ⟨rfl, rfl⟩

theorem zb_no (a0 a1 : Option Addr) (n0 n1 c0 c1 : Nat) (hn : 1048576 < n0 + n1) (h0 : n0 ≤ maxLen) (h1 : n1 ≤ maxLen) (w : World) :
    Calls Try.prog 7 #[.slice a0 n0 c0, .slice a1 n1 c1] w fun e w' => e = .returned (.bool false) ∧ w' = w := by
  unfold maxLen at h0 h1
  by_cases g0 : (1048576 : Int) < (n0 : Int)
  · go_enter Try.func7, Try.ntmps7
    go_wp2
    go_ret
    exact ⟨rfl, rfl⟩
  · by_cases g1 : (1048576 : Int) < (n1 : Int)
    · go_enter Try.func7, Try.ntmps7
      go_wp2
      go_ret
      exact ⟨rfl, rfl⟩
    · have g2 : (1048576 : Int) < (n0 : Int) + (n1 : Int) := by omega
      go_enter Try.func7, Try.ntmps7
      go_wp2
      go_ret
      exact ⟨rfl, rfl⟩

theorem At.drewN {w : World} {ao : Option Addr} {l : List UInt8} (h : At w ao l) (q : Nat) : At (w.drewN q) ao l :=
  h.below (below_drewN (Below.refl _ _) q)

theorem framed_len (lb lp : List UInt8) : (framed lb lp).length = lb.length + grp lp.length + lp.length := by
  simp [framed, grp]; omega
theorem framed_front {lb lp : List UInt8} {k : Nat} (h : k < lb.length) : (framed lb lp).getD k 0 = lb.getD k 0 := by
  simp [framed, List.getD, List.append_assoc, List.getElem?_append_left h]
theorem framed_back {lb lp : List UInt8} {k : Nat} : (framed lb lp).getD (lb.length + grp lp.length + k) 0 = lp.getD k 0 := by
  have e : lb.length + grp lp.length = (lb ++ Lib.uvarint lp.length).length := by simp [grp]
  rw [framed, List.getD, List.getD, e, List.getElem?_append_right (by omega)]
  congr 2; omega

set_option maxHeartbeats 2000000 in
theorem grows_in (a0 a1 : Option Addr) (c0 c1 : Nat) (lb lp : List UInt8) (w : World) (h0 : Came w a0 c0 lb) (h1 : Came w a1 c1 lp) (hs : lb.length + lp.length ≤ 1048576) :
    Calls Try.prog 4 #[.slice a0 lb.length c0, .slice a1 lp.length c1] w fun e w' => e = .returned (.bool true) ∧ Below w.heap.size w w' := by
  have H0 : Hid (Came w a0 c0 lb) := h0
  have H1 : Hid (Came w a1 c1 lp) := h1
  clear h0 h1
  go_enter Try.func4, Try.ntmps4
  go_wp2_with fail
  refine (zb_yes _ _ _ _ _ _ hs _).mono ?_
  rintro e w' ⟨rfl, rfl⟩
  go_wp2_with fail
  refine (clone_any a0 c0 lb (by omega) _ H0.out).mono ?_
  rintro e w1 ⟨bo, rfl, hat1, hb1⟩
  go_wp2_with fail
  refine (clone_any a1 c1 lp (by omega) _ (H1.out.below hb1)).mono ?_
  rintro e w2 ⟨po, rfl, hat2, hb2⟩
  have hat1' : At w2 bo lb := hat1.below hb2
  have hb3 : Below w'.heap.size w' w2 := hb1.trans (hb2.mono hb1.size)
  clear hat1 hb1 hb2
  go_wp2_with fail
  refine (zab_full bo po lb lp _ hat1' hat2 (by omega) (by omega)).mono ?_
  rintro e w3 ⟨g, cap, rfl, hat3, hb4⟩
  have HB : Hid (Below w'.heap.size w' w3) := hb3.trans (hb4.mono hb3.size)
  have HAb : Hid (At w3 bo lb) := hat1'.below hb4
  have HAp : Hid (At w3 po lp) := hat2.below hb4
  have HAg : Hid (At w3 (some ⟨g, 0, none⟩) (framed lb lp)) := hat3
  clear hat1' hat2 hat3 hb3 hb4
  have hgp := grp_pos lp.length
  have hgl := grp_le (x := lp.length) (by omega)
  obtain ⟨G, hG⟩ : ∃ G, G = grp lp.length := ⟨_, rfl⟩
  obtain ⟨N, hN⟩ : ∃ N, N = (framed lb lp).length := ⟨_, rfl⟩
  have hNl : N = lb.length + G + lp.length := by rw [hN, hG]; exact framed_len lb lp
  rw [← hN]
  have HG : Hid (G = grp lp.length) := hG
  have HNN : Hid (N = (framed lb lp).length) := hN
  rw [← hG] at hgp hgl
  have HNl : Hid (N = lb.length + G + lp.length) := hNl
  have hNge : lb.length + G + lp.length ≤ N := by omega
  have hNle : N ≤ 1048586 := by omega
  clear hG hN hNl
  have Hsz : Hid (Calls Try.prog 6 #[.int .i64 (lp.length : Int)] w3 fun e w' => e = .returned (.int .i64 ((G : Int) + (lp.length : Int))) ∧ w' = w3) := by
    refine (zzfs_any (lp.length : Int) lp.length (by rw [IntKind.wrap_u64]; omega) (by show _ < _; omega) w3).mono ?_
    rintro e w' ⟨rfl, rfl⟩
    refine ⟨ret_int ?_, rfl⟩
    rw [← HG.out]; unfold wrap64; omega
  go_wp2_with fail
  refine Hsz.out.mono ?_
  rintro e w4 ⟨rfl, rfl⟩
  have hne : ((N : Int) != (lb.length : Int) + ((G : Int) + (lp.length : Int))) = false := by have := HNl.out; simp; omega
  go_wp2
  go_loopw [7] (fun i wr => ∃ k : Nat, k ≤ lb.length ∧ i = .int .i64 k ∧ Hid (At wr bo lb) ∧ Hid (At wr po lp) ∧ Hid (At wr (some ⟨g, 0, none⟩) (framed lb lp)) ∧ Hid (Below w'.heap.size w' wr)) (fun i _ => lb.length - (intOf i).toNat)
  case atStart => exact ⟨0, Nat.zero_le _, rfl, HAb, HAp, HAg, HB⟩
  case round =>
    clear HAb HAp HAg HB
    obtain ⟨k, hk, rfl, HAb, HAp, HAg, HB⟩ := hrel
    by_cases hlt : k < lb.length
    · obtain ⟨gb, hgb, _, hcb⟩ := HAb.out.pos (by omega)
      obtain ⟨g', hg', _, hcg⟩ := HAg.out.pos (by rw [← HNN.out]; omega)
      cases hg'
      obtain ⟨cv, hcv⟩ : ∃ cv : Int, cv = ((lb.getD k 0).toNat : Int) := ⟨_, rfl⟩
      have hc1 : wr.cell? ⟨gb, k, none⟩ = some (.int .u8 cv) := by rw [hcv]; exact hcb k hlt
      have hc2 : wr.cell? ⟨g, k, none⟩ = some (.int .u8 cv) := by rw [hcv, ← framed_front (lp := lp) hlt]; exact hcg k (by rw [← HNN.out]; omega)
      have i1 : (k : Int) < (lb.length : Int) := by omega
      have i2 : (k : Int) < (N : Int) := by omega
      subst hgb
      clear hcb hcg hcv
      go_wp2
      go_quiet (fail)
      go_wp2
      go_roundw
      case rel => exact ⟨k + 1, by omega, by go_num, HAb.out.drewN _, HAp.out.drewN _, HAg.out.drewN _, below_drewN HB.out _⟩
      case measure => simp [intOf]; omega
    · obtain ⟨off, hoff⟩ : ∃ off, off = lb.length + G := ⟨_, rfl⟩
      have hE : (lb.length : Int) + ((G : Int) + (lp.length : Int)) - (lp.length : Int) = (off : Int) := by omega
      have HOF : Hid (off = lb.length + G) := hoff
      have hof : off + lp.length ≤ N := by omega
      clear hoff
      go_wp2
      clear hE
      go_loopw [9] (fun i wr => ∃ j : Nat, j ≤ lp.length ∧ i = .int .i64 j ∧ Hid (At wr po lp) ∧ Hid (At wr (some ⟨g, 0, none⟩) (framed lb lp)) ∧ Hid (Below w'.heap.size w' wr)) (fun i _ => lp.length - (intOf i).toNat)
      case atStart => exact ⟨0, Nat.zero_le _, rfl, HAp, HAg, HB⟩
      case round =>
        clear HAb HAp HAg HB
        obtain ⟨j, hj, rfl, HAp, HAg, HB⟩ := hrel
        by_cases hlt2 : j < lp.length
        · obtain ⟨gp, hgp2, _, hcp⟩ := HAp.out.pos (by omega)
          obtain ⟨g', hg', _, hcg⟩ := HAg.out.pos (by rw [← HNN.out]; omega)
          cases hg'
          obtain ⟨cv, hcv⟩ : ∃ cv : Int, cv = ((lp.getD j 0).toNat : Int) := ⟨_, rfl⟩
          have hc1 : wr.cell? ⟨gp, j, none⟩ = some (.int .u8 cv) := by rw [hcv]; exact hcp j hlt2
          have hc2 : wr.cell? ⟨g, off + j, none⟩ = some (.int .u8 cv) := by
            rw [hcv, ← framed_back (lb := lb), ← HG.out, ← HOF.out]; exact hcg (off + j) (by rw [← HNN.out]; omega)
          have i1 : (j : Int) < (lp.length : Int) := by omega
          have i2 : (off : Int) + (j : Int) < (N : Int) := by omega
          subst hgp2
          clear hcp hcg hcv
          go_wp2
          go_quiet (fail)
          go_wp2
          go_roundw
          case rel => exact ⟨j + 1, by omega, by go_num, HAp.out.drewN _, HAg.out.drewN _, below_drewN HB.out _⟩
          case measure => simp [intOf]; omega
        · go_wp2
          go_ret
          exact ⟨rfl, HB.out⟩

theorem grows_out (a0 a1 : Option Addr) (n0 n1 c0 c1 : Nat) (hn : 1048576 < n0 + n1) (h0 : n0 ≤ maxLen) (h1 : n1 ≤ maxLen) (w : World) :
    Calls Try.prog 4 #[.slice a0 n0 c0, .slice a1 n1 c1] w fun e w' => e = .returned (.bool true) ∧ Below w.heap.size w w' := by
  go_enter Try.func4, Try.ntmps4
  go_wp2_with (go_at_call 7; refine (zb_no _ _ _ _ _ _ hn h0 h1 _).mono ?_; rintro e w1 ⟨rfl, rfl⟩)
  go_ret
  exact ⟨rfl, Below.refl _ _⟩
end Go.Proofs.Qxb6605731a
