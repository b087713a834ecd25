/- Bytes in memory; the contract of 'cloneBytesB1'. -/
import Derived.Test.Qxb6605731aDoorRows
import Derived.WalkKit
import Derived.ProofKit
import Derived.WalkSpells
namespace Go.Proofs.Qxb6605731aDoor
open Go.ChangeShapes Go.WideShapes Go.ChangeAt Go.RowKit

theorem Tryd.info5 : (Tryd.prog.info? 5).map (fun i => (i.zero, i.size, i.bytes)) = some (some (.int .u8 0), 1, 1) := by kernel_rfl

/-- Bytes as cells. -/
def bcells (l : List UInt8) : List Value := l.map (fun b => .int .u8 (b.toNat : Int))
theorem bcells_append (a b : List UInt8) : bcells (a ++ b) = bcells a ++ bcells b := by simp [bcells]
theorem bcells_snoc (l : List UInt8) (c : UInt8) : bcells (l ++ [c]) = bcells l ++ [.int .u8 (c.toNat : Int)] := by simp [bcells]
theorem bcells_len (l : List UInt8) : (bcells l).length = l.length := by simp [bcells]
theorem bcells_one {l : List UInt8} : ∀ u ∈ bcells l, u.oneCell' = true := by
  intro u hu; simp [bcells] at hu; obtain ⟨b, _, rfl⟩ := hu; rfl
theorem bcells_at {l : List UInt8} {j : Nat} (hj : j < l.length) : (bcells l)[j]? = some (.int .u8 ((l.getD j 0).toNat : Int)) := by
  simp [bcells, List.getD, hj]
theorem byte_le (c : UInt8) : (c.toNat : Int) ≤ 255 := by have := c.toNat_lt; omega

/-- The bytes l lie at ao: it is nil and there are none; or ao is the head of a block. -/
def At (w : World) (ao : Option Addr) (l : List UInt8) : Prop :=
  (ao = none ∧ l = []) ∨ ∃ g, ao = some ⟨g, 0, none⟩ ∧ g < w.heap.size ∧ ∀ j, j < l.length → w.cell? ⟨g, j, none⟩ = some (.int .u8 ((l.getD j 0).toNat : Int))

theorem At.below {w w' : World} {ao : Option Addr} {l : List UInt8} (h : At w ao l) (hb : Below w.heap.size w w') : At w' ao l := by
  rcases h with h | ⟨g, rfl, hg, hc⟩
  · exact .inl h
  · exact .inr ⟨g, rfl, Nat.lt_of_lt_of_le hg hb.size, fun j hj => (hb.cell (p := ⟨g, j, none⟩) hg).trans (hc j hj)⟩

theorem At.pos {w : World} {ao : Option Addr} {l : List UInt8} (h : At w ao l) (hl : 0 < l.length) : ∃ g, ao = some ⟨g, 0, none⟩ ∧ g < w.heap.size ∧ ∀ j, j < l.length → w.cell? ⟨g, j, none⟩ = some (.int .u8 ((l.getD j 0).toNat : Int)) := by
  rcases h with ⟨_, rfl⟩ | h
  · simp at hl
  · exact h

theorem At.cells {w : World} {ao : Option Addr} {l : List UInt8} (h : At w ao l) : ∀ b, ao = some b → ∀ j u, (bcells l)[j]? = some u → w.cell? (b.add j) = some u := by
  intro b hb j u hu
  rcases h with ⟨rfl, _⟩ | ⟨g, rfl, _, hc⟩
  · cases hb
  · cases hb
    have hj : j < l.length := by
      have := (List.getElem?_eq_some_iff.1 hu).1
      simpa [bcells] using this
    rw [bcells_at hj] at hu
    rw [add_plain, Nat.zero_add, hc j hj]; exact hu

theorem at_owned {w : World} {B n : Nat} {v : Value} {l : List UInt8} (h : w.ownsRow B 5 1 v n (bcells l)) (hn : 1 ≤ n) : ∃ g cap, v = .slice (some ⟨g, 0, none⟩) n cap ∧ B ≤ g ∧ l.length = n ∧ At w (some ⟨g, 0, none⟩) l := by
  have hl := h.1
  rcases h.2 with ⟨_, h0⟩ | ⟨g, cap, cur, rfl, hb, hg, _⟩
  · omega
  · have hl' : l.length = n := by simpa [bcells] using hl
    refine ⟨g, cap, rfl, hb, hl', .inr ⟨g, rfl, lt_of_block hg, fun j hj => ?_⟩⟩
    rw [h.cellAt j (by omega)]
    exact bcells_at hj

/-- What is known of a slice of bytes that came in, the nil one apart: its elements l. -/
def Src (w : World) (ad : Addr) (l : List UInt8) : Prop := ∀ j, j < l.length → w.cell? (ad.add j) = some (.int .u8 ((l.getD j 0).toNat : Int))

theorem Src.below {w w' : World} {ad : Addr} {l : List UInt8} (h : Src w ad l) (hb : Below w.heap.size w w') : Src w' ad l := fun j hj => by
  have := h j hj
  rw [← this]; exact hb.cell (World.block_lt_of_cell? w _ this)

theorem take_set {k : Nat} {l : List UInt8} {xs : List Value} {u : Value} (h : xs.take k = bcells (l.take k)) (hk : k < l.length) (hx : xs.length = l.length) (hu : u = .int .u8 ((l.getD k 0).toNat : Int)) : (xs.set k u).take (k + 1) = bcells (l.take (k + 1)) := by
  have e : l.take (k + 1) = l.take k ++ [l.getD k 0] := by rw [List.take_succ_eq_append_getElem hk]; simp [List.getD, hk]
  rw [e, bcells_snoc, ← h, ← hu, List.take_succ_eq_append_getElem (by simp; omega)]
  simp [List.take_set_of_le]

theorem clone_nil (w : World) : Calls Tryd.prog 15 #[.slice none 0 0] w fun e w' => e = .returned (.slice none 0 0) ∧ w' = w := by
  have hne := fun (w : World) => Lib.run_eql_slice_nil (P := Tryd.prog) w 24 5 none 0 0 0 0 Tryd.underlying24
  go_enter Tryd.func15, Tryd.ntmps15
  go_wp2
  go_ret
  exact ⟨rfl, rfl⟩

theorem clone_zero (ad : Addr) (cap : Nat) (w : World) : Calls Tryd.prog 15 #[.slice (some ad) 0 cap] w fun e w' => e = .returned (.slice (some ⟨w.heap.size, 0, none⟩) 0 0) ∧ Below w.heap.size w w' ∧ w.heap.size < w'.heap.size := by
  have hne := fun (w : World) => Lib.run_eql_slice_nil (P := Tryd.prog) w 24 5 (some ad) 0 cap 0 0 Tryd.underlying24
  obtain ⟨i0, hi, hz0, hz1, hzb⟩ := info_parts Tryd.info5
  go_enter Tryd.func15, Tryd.ntmps15
  go_wp2_with (at_make; refine wpList_make_full _ rfl _ _ 24 rfl w.heap.size 5 i0 (.int .u8 0) 1 Tryd.underlying24 hi hz0 hz1 .i64 .i64 _ _ 0 rfl rfl rfl rfl (by omega) (by omega) (Nat.le_refl _) ?_)
  intro w1 hown1 hgrow1
  have hb1 : Below w.heap.size w w1 := (Below.refl _ _).grown hgrow1 (Nat.le_refl _) (fun k hk => by cases hk)
  have hlt := (hown1.lt w.heap.size rfl).2
  clear hown1 hgrow1
  go_wp2
  go_loop [4] (fun i => i = .int .i64 0) (fun _ => 0)
  case atStart => rfl
  case round =>
    subst hrel
    go_wp2
    go_ret
    exact ⟨rfl, hb1, hlt⟩

set_option maxHeartbeats 1000000 in
theorem clone_pos (b off n cap : Nat) (l : List UInt8) (hl : l.length = n) (hn : 0 < n) (hn2 : n ≤ 1048576) (w : World) (hc : ∀ j, j < n → w.cell? ⟨b, off + j, none⟩ = some (.int .u8 ((l.getD j 0).toNat : Int))) :
    Calls Tryd.prog 15 #[.slice (some ⟨b, off, none⟩) n cap] w fun e w' => e = .returned (.slice (some ⟨w.heap.size, 0, none⟩) n n) ∧ Below w.heap.size w w' ∧ w'.ownsRow w.heap.size 5 1 (.slice (some ⟨w.heap.size, 0, none⟩) n n) n (bcells l) := by
  have hne := fun (w : World) => Lib.run_eql_slice_nil (P := Tryd.prog) w 24 5 (some ⟨b, off, none⟩) n cap 0 0 Tryd.underlying24
  obtain ⟨i0, hi, hz0, hz1, hzb⟩ := info_parts Tryd.info5
  have HL : Hid (l.length = n) := hl
  have HC : Hid (∀ j, j < n → w.cell? ⟨b, off + j, none⟩ = some (.int .u8 ((l.getD j 0).toNat : Int))) := hc
  clear hl hc
  go_enter Tryd.func15, Tryd.ntmps15
  go_wp2_with (at_make; refine wpList_make_full _ rfl _ _ 24 rfl w.heap.size 5 i0 (.int .u8 0) 1 Tryd.underlying24 hi hz0 hz1 .i64 .i64 _ _ n rfl rfl rfl rfl (by rw [hzb]; omega) (by unfold maxLen; omega) (Nat.le_refl _) ?_)
  intro w1 hown1 hgrow1
  have hb1 : Below w.heap.size w w1 := (Below.refl _ _).grown hgrow1 (Nat.le_refl _) (fun k hk => by cases hk)
  clear hgrow1
  go_wp2
  go_loopw [4] (fun i wr => ∃ (k : Nat) (xs : List Value), k ≤ n ∧ i = .int .i64 k ∧ wr.ownsRow w.heap.size 5 1 (.slice (some ⟨w.heap.size, 0, none⟩) n n) n xs ∧ Hid (xs.take k = bcells (l.take k)) ∧ Below w.heap.size w wr) (fun i _ => n - (intOf i).toNat)
  case atStart => exact ⟨0, _, Nat.zero_le _, rfl, hown1, by show _ = _; simp [bcells], hb1⟩
  case round =>
    clear hown1 hb1 hne
    obtain ⟨k, xs, hk, rfl, hown, HT, hbel⟩ := hrel
    have hxl : xs.length = n := by have := hown.1; omega
    by_cases hlt : k < n
    · obtain ⟨cv, hcv⟩ : ∃ cv : Int, cv = ((l.getD k 0).toNat : Int) := ⟨_, rfl⟩
      have hb' : b < w.heap.size := World.block_lt_of_cell? w ⟨b, off + k, none⟩ (HC.out k hlt)
      have hcell : wr.cell? ⟨b, off + k, none⟩ = some (.int .u8 cv) := by rw [hcv, ← HC.out k hlt]; exact hbel.cell (p := ⟨b, off + k, none⟩) hb'
      have HCV : Hid (cv = ((l.getD k 0).toNat : Int)) := hcv
      obtain ⟨old, hold⟩ : ∃ old, wr.cell? ⟨w.heap.size, k, none⟩ = some old := by
        rw [hown.cellAt k (by omega)]; exact ⟨xs[k], List.getElem?_eq_getElem (by omega)⟩
      have hfr : wr.frozen? ⟨w.heap.size, k, none⟩ = false := hown.frozenAt k
      have HX : Hid (xs.length = n) := hxl
      clear hcv hxl
      go_wp2
      have R := hown.stored k (.int .u8 cv)
      go_roundw
      case rel => exact ⟨k + 1, _, by omega, by go_num, R.1, take_set HT.out (by rw [HL.out]; omega) (by rw [HL.out, HX.out]) (by rw [HCV.out]), hbel.trans ((Below.refl _ _).grown R.2 hbel.size (fun k hk => by cases hk; exact Nat.le_refl _))⟩
      case measure => simp [intOf]; omega
    · have hxs : xs = bcells l := by
        have := HT.out
        rw [List.take_of_length_le (by omega), List.take_of_length_le (by rw [HL.out]; omega)] at this
        exact this
      rw [hxs] at hown
      clear hxs hxl
      go_wp2
      go_ret
      exact ⟨rfl, hbel, hown⟩

/-- 'cloneBytesB1' at a slice that is not nil. -/
theorem clone_some (ad : Addr) (cap : Nat) (l : List UInt8) (hn2 : l.length ≤ 1048576) (w : World) (h : Src w ad l) :
    Calls Tryd.prog 15 #[.slice (some ad) l.length cap] w fun e w' => ∃ ao, e = .returned (.slice ao l.length l.length) ∧ At w' ao l ∧ Below w.heap.size w w' := by
  by_cases h0 : l.length = 0
  · have e : l = [] := List.eq_nil_of_length_eq_zero h0
    subst e
    refine (clone_zero ad cap w).mono ?_
    rintro e w' ⟨rfl, hb, hlt⟩
    exact ⟨_, rfl, .inr ⟨_, rfl, hlt, fun j hj => by simp at hj⟩, hb⟩
  · obtain ⟨b, off, spot⟩ := ad
    have hspot : spot = none := by simpa [Addr.add] using World.cell?_spot (h 0 (by omega))
    subst hspot
    refine (clone_pos b off _ cap l rfl (by omega) hn2 w (fun j hj => by rw [← add_plain]; exact h j hj)).mono ?_
    rintro e w' ⟨rfl, hb, hown⟩
    obtain ⟨g, cap', hv, _, _, hat⟩ := at_owned hown (by omega)
    simp at hv
    obtain ⟨rfl, rfl⟩ := hv
    exact ⟨_, rfl, hat, hb⟩

/-- A slice of bytes that came in: nil, or it leads to its elements. -/
def Came (w : World) (ao : Option Addr) (cap : Nat) (l : List UInt8) : Prop := (ao = none ∧ l = [] ∧ cap = 0) ∨ ∃ ad, ao = some ad ∧ Src w ad l

theorem Came.below {w w' : World} {ao : Option Addr} {cap : Nat} {l : List UInt8} (h : Came w ao cap l) (hb : Below w.heap.size w w') : Came w' ao cap l := by
  rcases h with h | ⟨ad, h1, h2⟩
  · exact .inl h
  · exact .inr ⟨ad, h1, h2.below hb⟩

/-- 'cloneBytesB1': a copy with no room behind its length, in new memory; nil stays nil. -/
theorem clone_any (ao : Option Addr) (cap : Nat) (l : List UInt8) (hn2 : l.length ≤ 1048576) (w : World) (h : Came w ao cap l) :
    Calls Tryd.prog 15 #[.slice ao l.length cap] w fun e w' => ∃ ao', e = .returned (.slice ao' l.length l.length) ∧ At w' ao' l ∧ Below w.heap.size w w' := by
  rcases h with ⟨rfl, rfl, rfl⟩ | ⟨ad, rfl, h⟩
  · refine (clone_nil w).mono ?_
    rintro e w' ⟨rfl, rfl⟩
    exact ⟨none, rfl, .inl ⟨rfl, rfl⟩, Below.refl _ _⟩
  · exact clone_some ad cap l hn2 w h
end Go.Proofs.Qxb6605731aDoor
