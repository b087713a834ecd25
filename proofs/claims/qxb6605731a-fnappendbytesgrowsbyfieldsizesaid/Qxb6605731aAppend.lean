/- The contracts of encoding/binary.AppendUvarint, 'appendBytes' and the door 'ZZappendBytes' onto a slice with no spare room. -/
import Derived.Test.Qxb6605731aMem
import Derived.Lib.Varint
import Derived.Lib.VarintMem
import Derived.Lib.Slices
import Derived.ArgAppend
import Derived.Laws.AppendOwnNone
namespace Go.Proofs.Qxb6605731a
open Go.ChangeShapes Go.WideShapes Go.ChangeAt Go.RowKit

theorem cell_one {w : World} {v : Value} {t : TypeId} : ∀ j u, [v][j]? = some u → (w.alloc (.cells #[v] t)).cell? ((⟨w.heap.size, 0, none⟩ : Addr).add j) = some u := by
  intro j u hj
  match j, hj with
  | 0, hj => simp at hj; subst hj; simp [Addr.add]
theorem one_u8 (n : Int) : ∀ u ∈ [Value.int .u8 n], u.oneCell' = true := by
  intro u hu; simp at hu; subst hu; rfl

theorem toNat_mod {y : Nat} : ((y % 128 + 128).toUInt8.toNat : Int) = (y : Int) % 128 + 128 := by
  rw [Lib.toUInt8_toNat (by omega)]; omega
theorem toNat_low {y : Nat} (h : y < 128) : (y.toUInt8.toNat : Int) = (y : Int) := by
  rw [Lib.toUInt8_toNat (by omega)]

/-- A row that grows byte by byte in new memory. -/
theorem grow_first {w w1 : World} {v' : Value} {o : Obj} {n : Nat} {olds : List UInt8} {c : UInt8} {cv : Int} (hcv : (c.toNat : Int) = cv) (hown : w1.ownsRow (w.heap.size + 1) 5 1 v' (n + 1) (bcells olds ++ [.int .u8 cv])) (hg : (w.alloc o).grownBy w1 none) :
    w1.ownsRow w.heap.size 5 1 v' (n + 1) (bcells (olds ++ [c])) ∧ Below w.heap.size w w1 := by
  refine ⟨?_, ((Below.refl _ _).alloc (Nat.le_refl _) o).grown hg (by simp) (fun k hk => by cases hk)⟩
  rw [bcells_snoc, hcv]
  obtain ⟨h1, h2⟩ := hown
  refine ⟨h1, ?_⟩
  rcases h2 with h2 | ⟨g, cap, cur, hv, hg, r⟩
  · exact .inl h2
  · exact .inr ⟨g, cap, cur, hv, by omega, r⟩
theorem grow_more {w wr w1 : World} {B : Nat} {v v' : Value} {o : Obj} {n : Nat} {olds : List UInt8} {c : UInt8} {cv : Int} (hcv : (c.toNat : Int) = cv) (hB : B ≤ wr.heap.size) (hbel : Below B w wr) (hown : wr.ownsRow B 5 1 v n (bcells olds))
    (hown' : w1.ownsRow B 5 1 v' (n + 1) (bcells olds ++ [.int .u8 cv])) (hg : (wr.alloc o).grownBy w1 v.ownBlock) :
    w1.ownsRow B 5 1 v' (n + 1) (bcells (olds ++ [c])) ∧ Below B w w1 := by
  refine ⟨?_, (hbel.alloc hB o).grown hg (by simp; omega) (fun k hk => (hown.lt k hk).1)⟩
  rw [bcells_snoc, hcv]; exact hown'

set_option maxHeartbeats 4000000 in
set_option maxRecDepth 100000 in
theorem au_full (ao : Option Addr) (olds : List UInt8) (x : Nat) (hx : x < 18446744073709551616) (w : World) (hat : At w ao olds) (hlim : olds.length ≤ 2097152) :
    Calls Try.prog 14 #[.slice ao olds.length olds.length, .int .u64 x] w fun e w' => ∃ v', e = .returned v' ∧ w'.ownsRow w.heap.size 5 1 v' (olds ++ Lib.uvarint x).length (bcells (olds ++ Lib.uvarint x)) ∧ Below w.heap.size w w' := by
  obtain ⟨i0, hi, hz0, hz1, hz2⟩ := info_parts Try.info5
  have hlen := Lib.uvarint_length64 hx
  have HX : Hid (x < 18446744073709551616) := hx
  have HAT : Hid (At w ao olds) := hat
  clear hx hat
  obtain ⟨n, hn⟩ : ∃ n, n = olds.length := ⟨_, rfl⟩
  rw [← hn]
  have HN : Hid (n = olds.length) := hn
  have hlim' : n ≤ 2097152 := by omega
  clear hn hlim
  go_enter Try.func14, Try.ntmps14
  go_wp2
  go_loopw [0, 1] (fun vb vx wr => ∃ (y : Nat) (pre : List UInt8), vx = .int .u64 y ∧ y ≤ x ∧ Hid (Lib.uvarint x = pre ++ Lib.uvarint y) ∧ ((pre = [] ∧ vb = .slice ao n n ∧ wr = w) ∨ (wr.ownsRow w.heap.size 5 1 vb (n + pre.length) (bcells (olds ++ pre)) ∧ Below w.heap.size w wr))) (fun _ vx _ => (intOf vx).toNat)
  case atStart => exact ⟨x, [], rfl, Nat.le_refl _, rfl, .inl ⟨rfl, rfl, rfl⟩⟩
  case round =>
    obtain ⟨y, pre, rfl, hy, HS, hst⟩ := hrel
    have hpl : pre.length + (Lib.uvarint y).length ≤ 10 := by
      have h2 := congrArg List.length HS.out
      rw [List.length_append] at h2
      omega
    have hyp := Lib.uvarint_pos y
    have hp10 : pre.length ≤ 9 := by omega
    clear hpl hyp hlen
    have hor : bits .or .u8 ((y : Int) % 256) 128 = (y : Int) % 128 + 128 := by
      rw [Lib.u8_or128_any _ (by omega) (by omega)]; omega
    rcases hst with ⟨rfl, rfl, rfl⟩ | ⟨hown, hbel⟩
    · by_cases h128 : 128 ≤ y
      · go_wp2_with (at_builtin; refine wpList_append_grows _ rfl _ _ 26 rfl 5 i0 (.int .u8 0) 1 1 Try.underlying26 hi hz0 hz1 hz2 rfl (by decide) ao n n (bcells olds) rfl ?c0 ?c1 ?c2 ⟨wr.heap.size, 0, none⟩ 1 1 [.int .u8 ((y : Int) % 128 + 128)] rfl rfl cell_one (one_u8 _) (by omega) ?c3 ?c4 ?_)
        case c0 => intro h; rcases HAT.out with ⟨_, h'⟩ | ⟨g, h', _⟩
                   · have := HN.out; rw [h'] at this; simp at this; omega
                   · rw [h'] at h; cases h
        case c1 => rw [bcells_len, ← HN.out]; omega
        case c2 => intro b hb j u hu; exact (HAT.out.below ((Below.refl _ _).alloc (Nat.le_refl _) _)).cells b hb j u hu
        case c3 => unfold maxLen; omega
        case c4 => omega
        intro v' w1 hown' hgrow
        have R := grow_first (olds := olds) (c := (y % 128 + 128).toUInt8) toNat_mod (by simpa using hown') hgrow
        clear hown' hgrow
        go_wp2
        go_roundw
        case rel => exact ⟨y / 128, [(y % 128 + 128).toUInt8], by go_num, by omega, by show _ = _; rw [HS.out, Lib.uvarint_big h128]; rfl, .inr ⟨R.1, R.2⟩⟩
        case measure => simp [intOf]; omega
      · have HSM : Hid (Lib.uvarint y = [y.toUInt8]) := Lib.uvarint_small (by omega)
        go_wp2_with (at_builtin; refine wpList_append_grows _ rfl _ _ 26 rfl 5 i0 (.int .u8 0) 1 1 Try.underlying26 hi hz0 hz1 hz2 rfl (by decide) ao n n (bcells olds) rfl ?d0 ?d1 ?d2 ⟨wr.heap.size, 0, none⟩ 1 1 [.int .u8 (y : Int)] rfl rfl cell_one (one_u8 _) (by omega) ?d3 ?d4 ?_)
        case d0 => intro h; rcases HAT.out with ⟨_, h'⟩ | ⟨g, h', _⟩
                   · have := HN.out; rw [h'] at this; simp at this; omega
                   · rw [h'] at h; cases h
        case d1 => rw [bcells_len, ← HN.out]; omega
        case d2 => intro b hb j u hu; exact (HAT.out.below ((Below.refl _ _).alloc (Nat.le_refl _) _)).cells b hb j u hu
        case d3 => unfold maxLen; omega
        case d4 => omega
        intro v' w1 hown' hgrow
        have R := grow_first (olds := olds) (c := y.toUInt8) (toNat_low (by omega)) (by simpa using hown') hgrow
        clear hown' hgrow
        go_wp2
        go_ret
        refine ⟨_, rfl, ?_, R.2⟩
        rw [HS.out, HSM.out, List.nil_append, List.length_append, ← HN.out]
        exact R.1
    · by_cases h128 : 128 ≤ y
      · go_wp2_with (at_builtin; refine wpList_append_own _ rfl _ _ 26 rfl w.heap.size 5 i0 (.int .u8 0) 1 1 Try.underlying26 hi hz0 hz1 hz2 rfl (by decide) _ _ _ rfl (hown.alloc _) ⟨wr.heap.size, 0, none⟩ 1 1 [.int .u8 ((y : Int) % 128 + 128)] rfl rfl cell_one (one_u8 _) ?e3 ?e4 ?e5 ?_)
        case e3 => unfold maxLen; omega
        case e4 => omega
        case e5 => have := hbel.size; simp; omega
        intro v' w1 hown' hgrow _
        have R := grow_more (c := (y % 128 + 128).toUInt8) toNat_mod hbel.size hbel hown hown' hgrow
        clear hown' hgrow hown hbel
        go_wp2
        go_roundw
        case rel => exact ⟨y / 128, pre ++ [(y % 128 + 128).toUInt8], by go_num, by omega, by show _ = _; rw [HS.out, Lib.uvarint_big h128]; simp, .inr ⟨by rw [List.length_append, ← List.append_assoc]; exact R.1, R.2⟩⟩
        case measure => simp [intOf]; omega
      · have HSM : Hid (Lib.uvarint y = [y.toUInt8]) := Lib.uvarint_small (by omega)
        go_wp2_with (at_builtin; refine wpList_append_own _ rfl _ _ 26 rfl w.heap.size 5 i0 (.int .u8 0) 1 1 Try.underlying26 hi hz0 hz1 hz2 rfl (by decide) _ _ _ rfl (hown.alloc _) ⟨wr.heap.size, 0, none⟩ 1 1 [.int .u8 (y : Int)] rfl rfl cell_one (one_u8 _) ?f3 ?f4 ?f5 ?_)
        case f3 => unfold maxLen; omega
        case f4 => omega
        case f5 => have := hbel.size; simp; omega
        intro v' w1 hown' hgrow _
        have R := grow_more (c := y.toUInt8) (toNat_low (by omega)) hbel.size hbel hown hown' hgrow
        clear hown' hgrow hown hbel
        go_wp2
        go_ret
        refine ⟨_, rfl, ?_, R.2⟩
        rw [HS.out, HSM.out, ← List.append_assoc, List.length_append, List.length_append, ← HN.out]
        exact R.1

/-- What 'appendBytes(b, p)' gives: b, the varint of p's length, p. -/
def framed (lb lp : List UInt8) : List UInt8 := lb ++ Lib.uvarint lp.length ++ lp

set_option maxHeartbeats 1000000 in
theorem ab_full (bo po : Option Addr) (lb lp : List UInt8) (w : World) (hb : At w bo lb) (hp : At w po lp) (h1 : lb.length ≤ 1048576) (h2 : lp.length ≤ 1048576) :
    Calls Try.prog 12 #[.slice bo lb.length lb.length, .slice po lp.length lp.length] w fun e w' => ∃ v', e = .returned v' ∧ w'.ownsRow w.heap.size 5 1 v' (framed lb lp).length (bcells (framed lb lp)) ∧ Below w.heap.size w w' := by
  obtain ⟨i0, hi, hz0, hz1, hz2⟩ := info_parts Try.info5
  obtain ⟨n, hn⟩ : ∃ n, n = lp.length := ⟨_, rfl⟩
  have hlen := Lib.uvarint_length64 (x := n) (by omega)
  have HA := au_full bo lb n (by omega) w hb (by omega)
  have HA' : Hid (Calls Try.prog 14 #[.slice bo lb.length lb.length, .int .u64 n] w fun e w' => ∃ v', e = .returned v' ∧ w'.ownsRow w.heap.size 5 1 v' (lb ++ Lib.uvarint n).length (bcells (lb ++ Lib.uvarint n)) ∧ Below w.heap.size w w') := HA
  have HF : Hid (framed lb lp = lb ++ Lib.uvarint n ++ lp) := by show _ = _; rw [hn]; rfl
  have HP : Hid (At w po lp) := hp
  have HN : Hid (n = lp.length) := hn
  rw [← hn]
  have hn2 : n ≤ 1048576 := by omega
  have hL : (lb ++ Lib.uvarint n).length ≤ 1048586 := by rw [List.length_append]; omega
  clear HA hb hp hn h2 hlen
  go_enter Try.func12, Try.ntmps12
  go_wp2_with fail
  refine HA'.out.mono ?_
  rintro e w1 ⟨v1, rfl, hown1, hb1⟩
  have hsz := hb1.size
  rcases HP.out.below hb1 with ⟨hpo, hl0⟩ | ⟨g, hpo, hg, hc⟩
  · have HL0 : Hid (lp = []) := hl0
    have hn0 : n = 0 := by have := HN.out; rw [hl0] at this; simpa using this
    subst hpo
    subst hn0
    clear hl0
    go_wp2_with (at_builtin; refine wpList_append_own_none rfl _ _ 26 rfl w.heap.size 5 i0 1 Try.underlying26 hi _ _ _ rfl hown1 rfl ?_)
    go_wp2
    go_ret
    refine ⟨_, rfl, ?_, hb1⟩
    rw [HF.out, HL0.out, List.append_nil]; exact hown1
  · subst hpo
    have hat : At w1 (some ⟨g, 0, none⟩) lp := .inr ⟨g, rfl, hg, hc⟩
    clear hc
    go_wp2_with (at_builtin; refine wpList_append_own _ rfl _ _ 26 rfl w.heap.size 5 i0 (.int .u8 0) 1 1 Try.underlying26 hi hz0 hz1 hz2 rfl (by decide) _ _ _ rfl hown1 ⟨g, 0, none⟩ n n (bcells lp) rfl ?c0 (hat.cells _ rfl) bcells_one ?c3 ?c4 ?c5 ?_)
    case c0 => rw [bcells_len, HN.out]; omega
    case c3 => unfold maxLen; omega
    case c4 => omega
    case c5 => omega
    intro v' w2 hown2 hgrow _
    have hb2 : Below w.heap.size w w2 := hb1.grown hgrow hsz (fun k hk => (hown1.lt k hk).1)
    have HO : Hid (w2.ownsRow w.heap.size 5 1 v' (framed lb lp).length (bcells (framed lb lp))) := by
      show w2.ownsRow _ _ _ _ _ _
      rw [HF.out, bcells_append, List.length_append (bs := lp), List.length_append, ← HN.out]; exact hown2
    clear hown2 hgrow hown1 hb1 hat
    go_wp2
    go_ret
    exact ⟨_, rfl, HO.out, hb2⟩

theorem framed_pos (lb lp : List UInt8) : 1 ≤ (framed lb lp).length := by
  have := Lib.uvarint_pos lp.length
  simp [framed]; omega

/-- 'ZZappendBytes(b, p)', both with no spare room: the new slice's bytes; nothing older has turned. -/
theorem zab_full (bo po : Option Addr) (lb lp : List UInt8) (w : World) (hb : At w bo lb) (hp : At w po lp) (h1 : lb.length ≤ 1048576) (h2 : lp.length ≤ 1048576) :
    Calls Try.prog 9 #[.slice bo lb.length lb.length, .slice po lp.length lp.length] w fun e w' => ∃ g cap, e = .returned (.slice (some ⟨g, 0, none⟩) (framed lb lp).length cap) ∧ At w' (some ⟨g, 0, none⟩) (framed lb lp) ∧ Below w.heap.size w w' := by
  have H : Hid (Calls Try.prog 12 #[.slice bo lb.length lb.length, .slice po lp.length lp.length] w fun e w' => ∃ v', e = .returned v' ∧ w'.ownsRow w.heap.size 5 1 v' (framed lb lp).length (bcells (framed lb lp)) ∧ Below w.heap.size w w') := ab_full bo po lb lp w hb hp h1 h2
  clear hb hp
  go_enter Try.func9, Try.ntmps9
  go_wp2_with fail
  refine H.out.mono ?_
  rintro e w1 ⟨v1, rfl, hown1, hb1⟩
  obtain ⟨g, cap, hv, _, _, hat⟩ := at_owned hown1 (framed_pos lb lp)
  subst hv
  clear hown1
  go_wp2
  go_ret
  exact ⟨g, cap, rfl, hat, hb1⟩
end Go.Proofs.Qxb6605731a
