/- A slice of slices of bytes that came in; the contracts of 'zzBytes' and 'cloneFieldsB1'. -/
import Derived.Test.Qxb6605731aDoorMem
import Derived.Test.Qxb6605731aDoorEnc
namespace Go.Proofs.Qxb6605731aDoor
open Go.ChangeShapes Go.WideShapes Go.ChangeAt Go.RowKit
open Plain

/-- What is known of a slice of slices that is not nil: at each place lies a slice of the field's bytes. -/
def Flds (w : World) (ad : Addr) (LL : List (List UInt8)) : Prop :=
  ∀ i, i < LL.length → ∃ ao cap, w.cell? (ad.add i) = some (.slice ao (LL.getD i []).length cap) ∧ Came w ao cap (LL.getD i []) ∧ (LL.getD i []).length ≤ maxLen

theorem Flds.below {w w' : World} {ad : Addr} {LL : List (List UInt8)} (h : Flds w ad LL) (hb : Below w.heap.size w w') : Flds w' ad LL := fun i hi => by
  obtain ⟨ao, cap, h1, h2, h3⟩ := h i hi
  exact ⟨ao, cap, by rw [← h1]; exact hb.cell (World.block_lt_of_cell? w _ h1), h2.below hb, h3⟩

/-- What 'zzBytes' answers: some verdict; where it says yes no length is great. -/
def ZfPost (w : World) (LL : List (List UInt8)) (e : Ending) (w' : World) : Prop := ∃ y, e = .returned (.bool y) ∧ w' = w ∧ (y = true → LL.length ≤ 1048576 ∧ ∀ j, j < LL.length → (LL.getD j []).length ≤ 1048576)

theorem zf_empty (ao : Option Addr) (c : Nat) (w : World) : Calls Tryd.prog 5 #[.slice ao 0 c] w fun e w' => e = .returned (.bool true) ∧ w' = w := by
  go_enter Tryd.func5, Tryd.ntmps5
  go_wp2
  go_loop [3, 4] (fun _ i => i = .int .i64 0) (fun _ _ => 0)
  case atStart => rfl
  case round =>
    subst hrel
    go_wp2
    go_ret
    exact ⟨rfl, rfl⟩

set_option maxHeartbeats 1000000 in
theorem zf_some (b off cap : Nat) (LL : List (List UInt8)) (w : World) (hl : LL.length ≤ maxLen) (h : Flds w ⟨b, off, none⟩ LL) :
    Calls Tryd.prog 5 #[.slice (some ⟨b, off, none⟩) LL.length cap] w fun e w' => ZfPost w LL e w' := by
  unfold maxLen at hl
  have HF : Hid (Flds w ⟨b, off, none⟩ LL) := h
  clear h
  by_cases h1 : (1048576 : Int) < (LL.length : Int)
  · go_enter Tryd.func5, Tryd.ntmps5
    go_wp2
    go_ret
    exact ⟨false, rfl, rfl, fun h => by cases h⟩
  · go_enter Tryd.func5, Tryd.ntmps5
    go_wp2
    go_loop [3, 4] (fun z i => ∃ (k : Nat) (m : Int), k ≤ LL.length ∧ i = .int .i64 k ∧ z = .int .i64 m ∧ 0 ≤ m ∧ m ≤ 1048576 ∧ Hid (∀ j, j < k → (LL.getD j []).length ≤ 1048576)) (fun _ i => LL.length - (intOf i).toNat)
    case atStart => exact ⟨0, _, Nat.zero_le _, rfl, rfl, by omega, by omega, fun j hj => by omega⟩
    case round =>
      obtain ⟨k, m, hk, rfl, rfl, hm0, hm1, HK⟩ := hrel
      by_cases hlt : k < LL.length
      · obtain ⟨ao, cp, hc, _, hmx⟩ := HF.out k hlt
        obtain ⟨n, hn⟩ : ∃ n, n = (LL.getD k []).length := ⟨_, rfl⟩
        rw [← hn] at hc hmx
        have hcell : w.cell? ⟨b, off + k, none⟩ = some (.slice ao n cp) := by rw [← add_plain]; exact hc
        have HN : Hid (n = (LL.getD k []).length) := hn
        unfold maxLen at hmx
        clear hc hn
        by_cases h2 : (1048576 : Int) < (n : Int)
        · go_wp2
          go_ret
          exact ⟨false, rfl, rfl, fun h => by cases h⟩
        · by_cases h3 : (1048576 : Int) < m + (n : Int)
          · go_wp2
            go_ret
            exact ⟨false, rfl, rfl, fun h => by cases h⟩
          · go_wp2
            go_round
            case rel =>
              refine ⟨k + 1, m + (n : Int), by omega, by go_num, rfl, by omega, by omega, fun j hj => ?_⟩
              by_cases e : j = k
              · rw [e, ← HN.out]; omega
              · exact HK.out j (by omega)
            case measure => simp [intOf]; omega
      · go_wp2
        go_ret
        exact ⟨true, rfl, rfl, fun _ => ⟨by omega, fun j hj => HK.out j (by omega)⟩⟩

theorem zf_any (ad : Addr) (cap : Nat) (LL : List (List UInt8)) (w : World) (hl : LL.length ≤ maxLen) (h : Flds w ad LL) :
    Calls Tryd.prog 5 #[.slice (some ad) LL.length cap] w fun e w' => ZfPost w LL e w' := by
  by_cases h0 : LL.length = 0
  · rw [h0]
    refine (zf_empty (some ad) cap w).mono ?_
    rintro e w' ⟨rfl, rfl⟩
    exact ⟨true, rfl, rfl, fun _ => ⟨by omega, fun j hj => by omega⟩⟩
  · obtain ⟨b, off, spot⟩ := ad
    obtain ⟨ao, cp, hc, _⟩ := h 0 (by omega)
    have hspot : spot = none := by simpa [Addr.add] using World.cell?_spot hc
    subst hspot
    exact zf_some b off cap LL w hl h

/-- 'cloneBytesB1', and that its copy lies in a new block. -/
theorem clone_new (ao : Option Addr) (cap : Nat) (l : List UInt8) (hn2 : l.length ≤ 1048576) (w : World) (h : Came w ao cap l) :
    Calls Tryd.prog 15 #[.slice ao l.length cap] w fun e w' => ∃ ao', e = .returned (.slice ao' l.length l.length) ∧ At w' ao' l ∧ Below w.heap.size w w' ∧ ∀ g, ao' = some ⟨g, 0, none⟩ → w.heap.size ≤ g := by
  rcases h with ⟨rfl, rfl, rfl⟩ | ⟨ad, rfl, h⟩
  · refine (clone_nil w).mono ?_
    rintro e w' ⟨rfl, rfl⟩
    exact ⟨none, rfl, .inl ⟨rfl, rfl⟩, Below.refl _ _, fun g hg => by cases hg⟩
  · by_cases h0 : l.length = 0
    · have e : l = [] := List.eq_nil_of_length_eq_zero h0
      subst e
      refine (clone_zero ad cap w).mono ?_
      rintro e w' ⟨rfl, hb, hlt⟩
      exact ⟨_, rfl, .inr ⟨_, rfl, hlt, fun j hj => by simp at hj⟩, hb, fun g hg => by cases hg; exact Nat.le_refl _⟩
    · obtain ⟨b, off, spot⟩ := ad
      have hspot : spot = none := by simpa [Addr.add] using World.cell?_spot (h 0 (by omega))
      subst hspot
      refine (clone_pos b off _ cap l rfl (by omega) hn2 w (fun j hj => by rw [← add_plain]; exact h j hj)).mono ?_
      rintro e w' ⟨rfl, hb, hown⟩
      obtain ⟨g, cap', hv, _, _, hat⟩ := at_owned hown (by omega)
      simp at hv
      obtain ⟨rfl, rfl⟩ := hv
      exact ⟨_, rfl, hat, hb, fun g hg => by cases hg; exact Nat.le_refl _⟩

/-- The copied fields: at each place of the new block lies a slice without spare room over the field's bytes. -/
def Cloned (w : World) (fo : Option Addr) (LL : List (List UInt8)) : Prop :=
  (fo = none ∧ LL = []) ∨ ∃ B, fo = some ⟨B, 0, none⟩ ∧ B < w.heap.size ∧ ∀ i, i < LL.length → ∃ ao, w.cell? ⟨B, i, none⟩ = some (.slice ao (LL.getD i []).length (LL.getD i []).length) ∧ At w ao (LL.getD i [])

theorem Cloned.below {w w' : World} {fo : Option Addr} {LL : List (List UInt8)} (h : Cloned w fo LL) (hb : Below w.heap.size w w') : Cloned w' fo LL := by
  rcases h with h | ⟨B, h1, h2, h3⟩
  · exact .inl h
  · refine .inr ⟨B, h1, Nat.lt_of_lt_of_le h2 hb.size, fun i hi => ?_⟩
    obtain ⟨ao, c1, c2⟩ := h3 i hi
    exact ⟨ao, (hb.cell (p := ⟨B, i, none⟩) h2).trans c1, c2.below hb⟩
theorem Cloned.pos {w : World} {fo : Option Addr} {LL : List (List UInt8)} (h : Cloned w fo LL) {i : Nat} (hi : i < LL.length) : ∃ B ao, fo = some ⟨B, 0, none⟩ ∧ w.cell? ⟨B, i, none⟩ = some (.slice ao (LL.getD i []).length (LL.getD i []).length) ∧ At w ao (LL.getD i []) := by
  rcases h with ⟨_, rfl⟩ | ⟨B, h1, _, h3⟩
  · simp at hi
  · obtain ⟨ao, c1, c2⟩ := h3 i hi
    exact ⟨B, ao, h1, c1, c2⟩

theorem cf_nil (w : World) : Calls Tryd.prog 6 #[.slice none 0 0] w fun e w' => e = .returned (.slice none 0 0) ∧ w' = w := by
  have hne := fun (w : World) => Lib.run_eql_slice_nil (P := Tryd.prog) w 22 24 none 0 0 0 0 Tryd.underlying22
  go_enter Tryd.func6, Tryd.ntmps6
  go_wp2
  go_ret
  exact ⟨rfl, rfl⟩

theorem Tryd.info24 : (Tryd.prog.info? 24).map (fun i => (i.zero, i.size, i.bytes)) = some (some (.slice none 0 0), 1, 24) := by kernel_rfl

theorem cf_zero (ad : Addr) (cap : Nat) (w : World) : Calls Tryd.prog 6 #[.slice (some ad) 0 cap] w fun e w' => e = .returned (.slice (some ⟨w.heap.size, 0, none⟩) 0 0) ∧ Below w.heap.size w w' ∧ w.heap.size < w'.heap.size := by
  have hne := fun (w : World) => Lib.run_eql_slice_nil (P := Tryd.prog) w 22 24 (some ad) 0 cap 0 0 Tryd.underlying22
  obtain ⟨i0, hi, hz0, hz1, hzb⟩ := info_parts Tryd.info24
  go_enter Tryd.func6, Tryd.ntmps6
  go_wp2_with (at_make; refine wpList_make_full _ rfl _ _ 22 rfl w.heap.size 24 i0 (.slice none 0 0) 1 Tryd.underlying22 hi hz0 hz1 .i64 .i64 _ _ 0 rfl rfl rfl rfl (by omega) (by omega) (Nat.le_refl _) ?_)
  intro w1 hown1 hgrow1
  have hb1 : Below w.heap.size w w1 := (Below.refl _ _).grown hgrow1 (Nat.le_refl _) (fun k hk => by cases hk)
  have hlt := (hown1.lt w.heap.size rfl).2
  clear hown1 hgrow1
  go_wp2
  go_loop [4] (fun i => i = .int .i64 0) (fun _ => 0)
  case atStart => rfl
  case round =>
    subst hrel
    go_wp2
    go_ret
    exact ⟨rfl, hb1, hlt⟩

theorem owns_below {w w' : World} {base : Nat} {e : TypeId} {size : Nat} {v : Value} {n : Nat} {xs : List Value} (h : w.ownsRow base e size v n xs) (hb : Below w.heap.size w w') : w'.ownsRow base e size v n xs := by
  refine ⟨h.1, ?_⟩
  rcases h.2 with h2 | ⟨g, cap, cur, hv, hg, hh, r⟩
  · exact .inl h2
  · exact .inr ⟨g, cap, cur, hv, hg, by rw [hb.block g (lt_of_block hh)]; exact hh, r⟩

theorem At.set {w : World} {ao : Option Addr} {l : List UInt8} {B k : Nat} {u : Value} (h : At w ao l) (hne : ∀ g, ao = some ⟨g, 0, none⟩ → B < g) : At (w.setCell ⟨B, k, none⟩ u) ao l := by
  rcases h with h | ⟨g, h1, h2, h3⟩
  · exact .inl h
  · have hg := hne g h1
    refine .inr ⟨g, h1, by simpa [World.setCell] using h2, fun j hj => ?_⟩
    rw [World.cell?_setCell_other (w := w) (a := ⟨B, k, none⟩) (b := ⟨g, j, none⟩) (h := fun e => by have := congrArg Addr.block e; simp only at this; omega)]
    exact h3 j hj

/-- The first k fields are copied. -/
def Done (w : World) (B : Nat) (LL : List (List UInt8)) (xs : List Value) (k : Nat) : Prop :=
  ∀ j, j < k → ∃ ao, xs[j]? = some (.slice ao (LL.getD j []).length (LL.getD j []).length) ∧ At w ao (LL.getD j []) ∧ ∀ g, ao = some ⟨g, 0, none⟩ → B < g

theorem Done.below {w w' : World} {B k : Nat} {LL : List (List UInt8)} {xs : List Value} (h : Done w B LL xs k) (hb : Below w.heap.size w w') : Done w' B LL xs k := fun j hj => by
  obtain ⟨ao, h1, h2, h3⟩ := h j hj
  exact ⟨ao, h1, h2.below hb, h3⟩
theorem Done.step {w : World} {B k : Nat} {LL : List (List UInt8)} {xs : List Value} {ao : Option Addr} {u : Value} (h : Done w B LL xs k) (hk : k < xs.length) (hu : u = .slice ao (LL.getD k []).length (LL.getD k []).length) (ha : At w ao (LL.getD k [])) (hn : ∀ g, ao = some ⟨g, 0, none⟩ → B < g) :
    Done (w.setCell ⟨B, k, none⟩ u) B LL (xs.set k u) (k + 1) := fun j hj => by
  by_cases e : j = k
  · subst e
    exact ⟨ao, by rw [List.getElem?_set_self (by omega), hu], ha.set hn, hn⟩
  · obtain ⟨a2, h1, h2, h3⟩ := h j (by omega)
    exact ⟨a2, by rw [List.getElem?_set_ne (by omega)]; exact h1, h2.set h3, h3⟩

set_option maxHeartbeats 2000000 in
theorem cf_pos (b off cap : Nat) (LL : List (List UInt8)) (hn2 : LL.length ≤ 1048576) (w : World) (h : Flds w ⟨b, off, none⟩ LL) (hls : ∀ j, j < LL.length → (LL.getD j []).length ≤ 1048576) :
    Calls Tryd.prog 6 #[.slice (some ⟨b, off, none⟩) LL.length cap] w fun e w' => e = .returned (.slice (some ⟨w.heap.size, 0, none⟩) LL.length LL.length) ∧ Below w.heap.size w w' ∧ ∃ xs, w'.ownsRow w.heap.size 24 1 (.slice (some ⟨w.heap.size, 0, none⟩) LL.length LL.length) LL.length xs ∧ Done w' w.heap.size LL xs LL.length := by
  have hne := fun (w : World) => Lib.run_eql_slice_nil (P := Tryd.prog) w 22 24 (some ⟨b, off, none⟩) LL.length cap 0 0 Tryd.underlying22
  obtain ⟨i0, hi, hz0, hz1, hzb⟩ := info_parts Tryd.info24
  have HF : Hid (Flds w ⟨b, off, none⟩ LL) := h
  have HLS : Hid (∀ j, j < LL.length → (LL.getD j []).length ≤ 1048576) := hls
  clear h hls
  go_enter Tryd.func6, Tryd.ntmps6
  go_wp2_with (at_make; refine wpList_make_full _ rfl _ _ 22 rfl w.heap.size 24 i0 (.slice none 0 0) 1 Tryd.underlying22 hi hz0 hz1 .i64 .i64 _ _ LL.length rfl rfl rfl rfl (by rw [hzb]; omega) (by unfold maxLen; omega) (Nat.le_refl _) ?_)
  intro w1 hown1 hgrow1
  have hb1 : Below w.heap.size w w1 := (Below.refl _ _).grown hgrow1 (Nat.le_refl _) (fun k hk => by cases hk)
  clear hgrow1
  go_wp2
  go_loopw [4] (fun i wr => ∃ (k : Nat) (xs : List Value), k ≤ LL.length ∧ i = .int .i64 k ∧ wr.ownsRow w.heap.size 24 1 (.slice (some ⟨w.heap.size, 0, none⟩) LL.length LL.length) LL.length xs ∧ Hid (Done wr w.heap.size LL xs k) ∧ Below w.heap.size w wr) (fun i _ => LL.length - (intOf i).toNat)
  case atStart => exact ⟨0, _, Nat.zero_le _, rfl, hown1, fun j hj => by omega, hb1⟩
  case round =>
    clear hown1 hb1 hne
    obtain ⟨k, xs, hk, rfl, hown, HD, hbel⟩ := hrel
    have hxl : xs.length = LL.length := by have := hown.1; omega
    by_cases hlt : k < LL.length
    · obtain ⟨l, hl⟩ : ∃ l, l = LL.getD k [] := ⟨_, rfl⟩
      obtain ⟨ao, cp, hc, hcame, _⟩ := HF.out.below hbel k hlt
      rw [← hl] at hc hcame
      have hcell : wr.cell? ⟨b, off + k, none⟩ = some (.slice ao l.length cp) := by rw [← add_plain]; exact hc
      have hl2 : l.length ≤ 1048576 := by rw [hl]; exact HLS.out k hlt
      have HE : Hid (l = LL.getD k []) := hl
      have HX : Hid (xs.length = LL.length) := hxl
      have HCM : Hid (Came wr ao cp l) := hcame
      clear hc hl hxl hcame
      go_wp2_with fail
      refine (clone_new ao cp l hl2 _ HCM.out).mono ?_
      rintro e w2 ⟨ao', rfl, hat2, hb2, hnew⟩
      have hsz := hbel.size
      have hbk : w.heap.size < wr.heap.size := (hown.lt w.heap.size rfl).2
      have hown2 := owns_below hown hb2
      have HD2 : Hid (Done w2 w.heap.size LL xs k) := HD.out.below hb2
      have hbel2 : Below w.heap.size w w2 := hbel.trans (hb2.mono hsz)
      obtain ⟨old, hold⟩ : ∃ old, w2.cell? ⟨w.heap.size, k, none⟩ = some old := by
        rw [hown2.cellAt k (by omega)]; exact ⟨xs[k]'(by rw [HX.out]; omega), List.getElem?_eq_getElem (by rw [HX.out]; omega)⟩
      have hfr : w2.frozen? ⟨w.heap.size, k, none⟩ = false := hown2.frozenAt k
      have HA2 : Hid (At w2 ao' l) := hat2
      have HNW : Hid (∀ g, ao' = some ⟨g, 0, none⟩ → w.heap.size < g) := fun g hg => by have := hnew g hg; omega
      clear hat2 hnew hown hbel hb2 HD
      go_wp2
      have R := hown2.stored k (.slice ao' l.length l.length)
      go_roundw
      case rel => exact ⟨k + 1, _, by omega, by go_num, R.1, HD2.out.step (by rw [HX.out]; omega) (by rw [← HE.out]) (by rw [← HE.out]; exact HA2.out) HNW.out, hbel2.trans ((Below.refl _ _).grown R.2 hbel2.size (fun k hk => by cases hk; exact Nat.le_refl _))⟩
      case measure => simp [intOf]; omega
    · have hkk : k = LL.length := by omega
      have HD' : Hid (Done wr w.heap.size LL xs LL.length) := by show Done _ _ _ _ _; rw [← hkk]; exact HD.out
      clear hkk hxl
      go_wp2
      go_ret
      exact ⟨rfl, hbel, xs, hown, HD'.out⟩

/-- 'cloneFieldsB1': each field is copied into new memory; nil stays nil. -/
theorem cf_some (ad : Addr) (cap : Nat) (LL : List (List UInt8)) (hn2 : LL.length ≤ 1048576) (w : World) (h : Flds w ad LL) (hls : ∀ j, j < LL.length → (LL.getD j []).length ≤ 1048576) :
    Calls Tryd.prog 6 #[.slice (some ad) LL.length cap] w fun e w' => ∃ fo, e = .returned (.slice fo LL.length LL.length) ∧ Cloned w' fo LL ∧ Below w.heap.size w w' := by
  by_cases h0 : LL.length = 0
  · have e : LL = [] := List.eq_nil_of_length_eq_zero h0
    subst e
    refine (cf_zero ad cap w).mono ?_
    rintro e w' ⟨rfl, hb, hlt⟩
    exact ⟨_, rfl, .inr ⟨_, rfl, hlt, fun j hj => by simp at hj⟩, hb⟩
  · obtain ⟨b, off, spot⟩ := ad
    obtain ⟨ao, cp, hc, _⟩ := h 0 (by omega)
    have hspot : spot = none := by simpa [Addr.add] using World.cell?_spot hc
    subst hspot
    refine (cf_pos b off cap LL hn2 w h hls).mono ?_
    rintro e w' ⟨rfl, hb, xs, hown, hd⟩
    refine ⟨_, rfl, .inr ⟨_, rfl, (hown.lt _ rfl).2, fun i hi => ?_⟩, hb⟩
    obtain ⟨ao, h1, h2, _⟩ := hd i hi
    exact ⟨ao, by rw [hown.cellAt i (by omega)]; exact h1, h2⟩
end Go.Proofs.Qxb6605731aDoor
