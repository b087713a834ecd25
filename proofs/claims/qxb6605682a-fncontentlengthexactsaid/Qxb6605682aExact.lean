/- The walk of 'FnContentLengthExact'. -/
import Derived.Test.Qxb6605682aLength
import Derived.Test.Qxb6605682aModel
import Derived.WalkSpells
import Derived.Laws.CopyOwn
namespace Go.Proofs.Qxb6605682a
open Go.ChangeShapes Go.WideShapes Go.ChangeAt Go.RowKit
open Plain

theorem zb_empty (ao : Option Addr) (c : Nat) (w : World) : Calls Try.prog 7 #[.slice ao 0 c] w fun e w' => e = .returned (.bool true) ∧ w' = w := by
  go_enter Try.func7, Try.ntmps7
  go_wp2
  go_loop [3, 4] (fun _ i => i = .int .i64 0) (fun _ _ => 0)
  case atStart => rfl
  case round =>
    subst hrel
    go_wp2
    go_ret
    exact ⟨rfl, rfl⟩

/-- What 'zzBytes' answers: some verdict; where it says yes no length is great. -/
def ZbPost (w : World) (len : Nat) (ss : List ByteArray) (e : Ending) (w' : World) : Prop := ∃ y, e = .returned (.bool y) ∧ w' = w ∧ (y = true → len ≤ 1048576 ∧ ∀ j, j < len → (ss.getD j ByteArray.empty).size ≤ 1048576)

set_option maxHeartbeats 1000000 in
theorem zb_some (b off len cap : Nat) (ss : List ByteArray) (w : World) (hl : len ≤ maxLen) (hss : ss.length = len) (hsz : ∀ s ∈ ss, s.size ≤ maxLen) (hc : ∀ j, j < len → w.cell? ⟨b, off + j, none⟩ = some (.string (ss.getD j ByteArray.empty))) :
    Calls Try.prog 7 #[.slice (some ⟨b, off, none⟩) len cap] w fun e w' => ZbPost w len ss e w' := by
  unfold maxLen at hl hsz
  by_cases h1 : (1048576 : Int) < (len : Int)
  · clear hc
    go_enter Try.func7, Try.ntmps7
    go_wp2
    go_ret
    exact ⟨false, rfl, rfl, fun h => by cases h⟩
  · have HSZ : Hid (∀ s ∈ ss, s.size ≤ 9223372036854775807) := hsz
    have HC : Hid (∀ j, j < len → w.cell? ⟨b, off + j, none⟩ = some (.string (ss.getD j ByteArray.empty))) := hc
    have HS : Hid (ss.length = len) := hss
    clear hsz hc hss
    go_enter Try.func7, Try.ntmps7
    go_wp2
    go_loop [3, 4] (fun z i => ∃ (k : Nat) (m : Int), k ≤ len ∧ i = .int .i64 k ∧ z = .int .i64 m ∧ 0 ≤ m ∧ m ≤ 1048576 ∧ Hid (∀ j, j < k → (ss.getD j ByteArray.empty).size ≤ 1048576)) (fun _ i => len - (intOf i).toNat)
    case atStart => exact ⟨0, _, Nat.zero_le _, rfl, rfl, by omega, by omega, fun j hj => by omega⟩
    case round =>
      obtain ⟨k, m, hk, rfl, rfl, hm0, hm1, HK⟩ := hrel
      by_cases hlt : k < len
      · obtain ⟨s, hs⟩ : ∃ s, s = ss.getD k ByteArray.empty := ⟨_, rfl⟩
        have hcell : w.cell? ⟨b, off + k, none⟩ = some (.string s) := by rw [hs]; exact HC.out k hlt
        have hmx : s.size ≤ 9223372036854775807 := by
          have hk' : k < ss.length := by rw [HS.out]; exact hlt
          rw [hs]; simp only [List.getD, List.getElem?_eq_getElem hk', Option.getD_some]; exact HSZ.out _ (List.getElem_mem hk')
        have HE : Hid (s = ss.getD k ByteArray.empty) := hs
        clear hs
        by_cases h2 : (1048576 : Int) < (s.size : Int)
        · go_wp2
          go_ret
          exact ⟨false, rfl, rfl, fun h => by cases h⟩
        · by_cases h3 : (1048576 : Int) < m + (s.size : Int)
          · go_wp2
            go_ret
            exact ⟨false, rfl, rfl, fun h => by cases h⟩
          · go_wp2
            go_round
            case rel =>
              refine ⟨k + 1, m + (s.size : Int), by omega, by go_num, rfl, by omega, by omega, fun j hj => ?_⟩
              by_cases e : j = k
              · rw [e, ← HE.out]; omega
              · exact HK.out j (by omega)
            case measure => simp [intOf]; omega
      · go_wp2
        go_ret
        exact ⟨true, rfl, rfl, fun _ => ⟨by omega, fun j hj => HK.out j (by omega)⟩⟩

/-- What is known of a slice of strings that came in. -/
def Strs (w : World) (ad : Addr) (len : Nat) (ss : List ByteArray) : Prop := ss.length = len ∧ (∀ s ∈ ss, s.size ≤ maxLen) ∧ ∀ j, j < len → w.cell? (ad.add j) = some (.string (ss.getD j ByteArray.empty))

theorem zb_any (ad : Addr) (len cap : Nat) (ss : List ByteArray) (w : World) (hl : len ≤ maxLen) (h : Strs w ad len ss) :
    Calls Try.prog 7 #[.slice (some ad) len cap] w fun e w' => ZbPost w len ss e w' := by
  by_cases h0 : len = 0
  · subst h0
    refine (zb_empty (some ad) cap w).mono ?_
    rintro e w' ⟨rfl, rfl⟩
    exact ⟨true, rfl, rfl, fun _ => ⟨by omega, fun j hj => by omega⟩⟩
  · obtain ⟨b, off, spot⟩ := ad
    have hspot : spot = none := by simpa [Addr.add] using World.cell?_spot (h.2.2 0 (by omega))
    subst hspot
    exact zb_some b off len cap ss w hl h.1 h.2.1 (fun j hj => by rw [← add_plain]; exact h.2.2 j hj)

theorem Try.info9 : (Try.prog.info? 9).map (fun i => (i.zero, i.size, i.bytes)) = some (some (.string ⟨#[]⟩), 1, 16) := by kernel_rfl
theorem Try.size9 : (Try.prog.info? 9).map (fun i => i.size) = some 1 := by kernel_rfl

theorem made_block {w : World} {B g n : Nat} {xs : List Value} (h : w.ownsRow B 9 1 (.slice (some ⟨g, 0, none⟩) n n) n xs) : ∃ cur : List Value, w.heap[g]? = some (.cells cur.toArray 9 (0, 0)) ∧ cur.length = n := by
  rcases h.2 with ⟨h, _⟩ | ⟨g', cap, cur, hv, _, hg, _, _, hs, _⟩
  · cases h
  · simp at hv
    obtain ⟨rfl, rfl⟩ := hv
    exact ⟨cur.toList, by simpa using hg, by simpa using hs⟩

def scells (ss : List ByteArray) : List Value := ss.map Value.string
theorem splice_all (cur cs : List Value) (h : cur.length = cs.length) : splice cur 0 cs = cs := by
  simp [splice, h]
theorem scell_at {w : World} {g j : Nat} {ss : List ByteArray} (h : w.heap[g]? = some (.cells (scells ss).toArray 9 (0, 0))) (hj : j < ss.length) : w.cell? ⟨g, j, none⟩ = some (.string (ss.getD j ByteArray.empty)) := by
  rw [cell_of_row w g j _ 9 (0, 0) h]
  simp [scells, List.getD, hj]

/-- What came in is made; what is copied lies in the new block. -/
theorem src_cells {w w1 : World} {ad : Addr} {len : Nat} {ss : List ByteArray} (h : Strs w ad len ss) (hb : Below w.heap.size w w1) : ∀ j v, (scells ss)[j]? = some v → w1.cell? (ad.add j) = some v := by
  intro j v hv
  have hj : j < len := by
    have := (List.getElem?_eq_some_iff.1 hv).1
    simpa [scells, h.1] using this
  have hc := h.2.2 j hj
  have e : v = .string (ss.getD j ByteArray.empty) := by
    have hj' : j < ss.length := by rw [h.1]; exact hj
    simp [scells, hj'] at hv
    simp [List.getD, hj', ← hv]
  rw [e, ← hc]
  exact hb.cell (World.block_lt_of_cell? w _ hc)

set_option maxHeartbeats 2000000 in
theorem ex_some (ad : Addr) (len cap : Nat) (ss : List ByteArray) (w : World) (hl : len ≤ maxLen) (h : Strs w ad len ss) :
    Calls Try.prog 3 #[.slice (some ad) len cap] w fun e w' => e = .returned (.bool true) ∧ Below w.heap.size w w' := by
  have HZ := zb_any ad len cap ss w hl h
  have HS : Hid (Strs w ad len ss) := h
  have HZ' : Hid (Calls Try.prog 7 #[.slice (some ad) len cap] w fun e w' => ZbPost w len ss e w') := HZ
  clear HZ h
  unfold maxLen at hl
  obtain ⟨i0, hi, hz0, hz1, hzb⟩ := info_parts Try.info9
  have hne := fun (w : World) => run_neq_slice_nil_any (P := Try.prog) w 22 9 (some ad) len cap 0 0 Try.underlying22
  go_enter Try.func3, Try.ntmps3
  go_wp2_with fail
  refine HZ'.out.mono ?_
  rintro e w' ⟨y, rfl, rfl, hy⟩
  cases y with
  | false =>
    clear hy
    go_wp2
    go_ret
    exact ⟨rfl, Below.refl _ _⟩
  | true =>
    obtain ⟨hlen, hszs⟩ := hy rfl
    have HK : Hid (∀ j, j < len → (ss.getD j ByteArray.empty).size ≤ 1048576) := hszs
    clear hy hszs
    by_cases h65 : (65536 : Int) < (len : Int)
    · go_wp2
      go_ret
      exact ⟨rfl, Below.refl _ _⟩
    · go_wp2_with (at_make; refine wpList_make_full _ rfl _ _ 22 rfl w'.heap.size 9 i0 (.string ⟨#[]⟩) 1 Try.underlying22 hi hz0 hz1 .i64 .i64 _ _ len rfl rfl rfl rfl (by rw [hzb]; omega) (by unfold maxLen; omega) (Nat.le_refl _) ?_)
      intro w1 hown1 hgrow1
      obtain ⟨cur, hcur, hcl⟩ := made_block hown1
      have hb1 : Below w'.heap.size w' w1 := (Below.refl _ _).grown hgrow1 (Nat.le_refl _) (fun k hk => by cases hk)
      clear hown1 hgrow1
      have hsl : (scells ss).length = len := by have := HS.out.1; simpa [scells] using this
      go_wp2_with (refine wpList_copy_splice rfl (.tmp 21) (.tmp 22) 22 22 rfl 9 Try.underlying22 Try.size9 (some ⟨w'.heap.size, 0, none⟩) (some ad) len len len cap rfl rfl w'.heap.size 0 cur 9 hcur (scells ss) ?c1 ?c2 ?c3 ?c4 w'.heap.size w' hb1 (Nat.le_refl _) ?_)
      case c1 => rw [hsl]; exact (Nat.min_self len).symm
      case c2 => exact fun _ => src_cells HS.out hb1
      case c3 => omega
      case c4 => intro v hv; simp [scells] at hv; obtain ⟨s, _, rfl⟩ := hv; rfl
      intro w2 hw2 hb2
      rw [splice_all cur _ (by omega)] at hw2
      clear hcur hcl hb1
      have HSL : Hid (ss.length = len) := HS.out.1
      clear HS hsl hne
      go_wp2
      go_loop [4, 5] (fun z i => ∃ (k : Nat) (m : Int), k ≤ len ∧ i = .int .i64 k ∧ z = .int .i64 m ∧ 0 ≤ m ∧ m ≤ 1048576) (fun _ i => len - (intOf i).toNat)
      case atStart => exact ⟨0, _, Nat.zero_le _, rfl, rfl, by omega, by omega⟩
      case round =>
        obtain ⟨k, m, hk, rfl, rfl, hm0, hm1⟩ := hrel
        by_cases hlt : k < len
        · obtain ⟨s, hs⟩ : ∃ s, s = ss.getD k ByteArray.empty := ⟨_, rfl⟩
          have hcell : w2.cell? ⟨w'.heap.size, k, none⟩ = some (.string s) := by rw [hs]; exact scell_at hw2.out (by rw [HSL.out]; exact hlt)
          have hmx : s.size ≤ 1048576 := by rw [hs]; exact HK.out k hlt
          clear hs
          by_cases h3 : (1048576 : Int) < m + (s.size : Int)
          · go_wp2
            go_ret
            exact ⟨rfl, hb2⟩
          · go_wp2
            go_round
            case rel => exact ⟨k + 1, m + (s.size : Int), by omega, by go_num, rfl, by omega, by omega⟩
            case measure => simp [intOf]; omega
        · have Hb2 : Hid (Below w'.heap.size w' w2) := hb2
          clear hb2
          rcases (show len = 0 ∨ len = 1 ∨ 2 ≤ len from by omega) with h0 | h1 | h2
          · subst h0
            go_wp2_with (first | (go_at_call 8; refine (zz_none _ _ _).mono ?_; rintro e w9 ⟨rfl, rfl⟩) | (go_at_call 9; refine (md_none _ _ _).mono ?_; rintro e w9 ⟨rfl, rfl⟩))
            go_ret
            exact ⟨rfl, Hb2.out⟩
          · subst h1
            obtain ⟨s, hs⟩ : ∃ s, s = ss.getD 0 ByteArray.empty := ⟨_, rfl⟩
            have hcell : w2.cell? ⟨w'.heap.size, 0, none⟩ = some (.string s) := by rw [hs]; exact scell_at hw2.out (by rw [HSL.out]; omega)
            clear hs
            go_wp2_with fail
            refine (zz_one w'.heap.size 0 1 s _ hcell).mono ?_
            rintro e w3 ⟨rfl, hb3⟩
            have hcell3 : w3.cell? ⟨w'.heap.size, 0, none⟩ = some (.string s) := (hb3.cell (p := ⟨w'.heap.size, 0, none⟩) (lt_of_block hw2.out)).trans hcell
            have Hb3 : Hid (Below w'.heap.size w' w3) := Hb2.out.trans (hb3.mono (Hb2.out.size))
            clear hcell hb3
            go_wp2_with fail
            refine (md_one w'.heap.size 0 1 s _ hcell3).mono ?_
            rintro e w4 ⟨rfl, rfl⟩
            go_wp2
            go_ret
            exact ⟨rfl, Hb3.out⟩
          · go_wp2_with (first | (go_at_call 8; refine (zz_many _ _ _ h2 _).mono ?_; rintro e w9 ⟨rfl, rfl⟩) | (go_at_call 9; refine (md_many _ _ _ h2 _).mono ?_; rintro e w9 ⟨rfl, rfl⟩))
            go_ret
            exact ⟨rfl, Hb2.out⟩

/-- The nil slice. -/
theorem ex_nil (w : World) : Calls Try.prog 3 #[.slice none 0 0] w fun e w' => e = .returned (.bool true) ∧ Below w.heap.size w w' := by
  have hne := fun (w : World) => run_neq_slice_nil_any (P := Try.prog) w 22 9 none 0 0 0 0 Try.underlying22
  go_enter Try.func3, Try.ntmps3
  go_wp2_with (go_at_call 7; refine (zb_empty _ _ _).mono ?_; rintro e w9 ⟨rfl, rfl⟩)
  go_loop [4, 5] (fun _ i => i = .int .i64 0) (fun _ _ => 0)
  case atStart => rfl
  case round =>
    subst hrel
    go_wp2_with (first | (go_at_call 8; refine (zz_none _ _ _).mono ?_; rintro e w9 ⟨rfl, rfl⟩) | (go_at_call 9; refine (md_none _ _ _).mono ?_; rintro e w9 ⟨rfl, rfl⟩))
    go_ret
    exact ⟨rfl, Below.refl _ _⟩
end Go.Proofs.Qxb6605682a
