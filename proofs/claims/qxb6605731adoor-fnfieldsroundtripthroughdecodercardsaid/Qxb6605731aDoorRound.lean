/- The walk of 'FnFieldsRoundTripThroughDecoder'. -/
import Derived.Test.Qxb6605731aDoorFields
import Derived.Test.Qxb6605731aDoorWrite
import Derived.Test.Qxb6605731aDoorRead
namespace Go.Proofs.Qxb6605731aDoor
open Go.ChangeShapes Go.WideShapes Go.ChangeAt Go.RowKit
open Plain

theorem enc_append : ∀ A B : List (List UInt8), enc (A ++ B) = enc A ++ enc B
  | [], B => rfl
  | a :: A, B => by rw [List.cons_append, enc, enc_append A B, enc]; simp [List.append_assoc]
theorem enc_take_le (L : List (List UInt8)) (k : Nat) : (enc (L.take k)).length ≤ (enc L).length := by
  have : enc L = enc (L.take k) ++ enc (L.drop k) := by rw [← enc_append, List.take_append_drop]
  rw [this, List.length_append]; omega
theorem mem_len {L : List (List UInt8)} {n : Nat} (h : ∀ j, j < L.length → (L.getD j []).length ≤ n) : ∀ l ∈ L, l.length ≤ n := by
  intro l hl
  obtain ⟨j, hj, rfl⟩ := List.getElem_of_mem hl
  have := h j hj
  simpa [List.getD, hj] using this

/-- The shape of an owned row of bytes, nil or not. -/
theorem own_shape {w : World} {B n : Nat} {v : Value} {ls : List UInt8} (h : w.ownsRow B 5 1 v n (bcells ls)) : ∃ ao c, v = .slice ao n c ∧ n = ls.length ∧ n ≤ c ∧ c ≤ maxLen ∧ Rd w ao ls := by
  have hl : n = ls.length := by have := h.1; rw [bcells_len] at this; omega
  rcases h.2 with ⟨rfl, h0⟩ | ⟨g, cap, cur, rfl, hb, hg, h1, h2, _⟩
  · have : ls = [] := List.eq_nil_of_length_eq_zero (by omega)
    exact ⟨none, 0, by rw [h0], hl, by omega, by unfold maxLen; omega, .inl this⟩
  · refine ⟨_, cap, rfl, hl, h1, h2, .inr ⟨g, 0, rfl, lt_of_block hg, fun j hj => ?_⟩⟩
    rw [Nat.zero_add, h.cellAt j (by omega)]
    exact bcells_at hj

theorem Rd.front {w : World} {g o : Nat} {x y : List UInt8} (h : Rd w (some ⟨g, o, none⟩) (x ++ y)) : Rd w (some ⟨g, o, none⟩) x := by
  by_cases e : x = []
  · exact .inl e
  · have hx : 0 < x.length := List.length_pos_iff.2 e
    obtain ⟨g', o', h1, h2, h3⟩ := h.pos (by simp; omega)
    cases h1
    refine .inr ⟨g, o, rfl, h2, fun j hj => ?_⟩
    rw [h3 j (by simp; omega), List.getD, List.getD, List.getElem?_append_left hj]
theorem Rd.back {w : World} {g o : Nat} {x y : List UInt8} (h : Rd w (some ⟨g, o, none⟩) (x ++ y)) : Rd w (some ⟨g, o + x.length, none⟩) y := by
  by_cases e : y = []
  · exact .inl e
  · have hy : 0 < y.length := List.length_pos_iff.2 e
    obtain ⟨g', o', h1, h2, h3⟩ := h.pos (by simp; omega)
    cases h1
    refine .inr ⟨g, o + x.length, rfl, h2, fun j hj => ?_⟩
    rw [Nat.add_assoc, h3 (x.length + j) (by simp; omega), List.getD, List.getD, List.getElem?_append_right (by omega), show x.length + j - x.length = j from by omega]

/-- What is read behind the header: the field's bytes, then the rest. -/
theorem read_step {D g o : Nat} {wr w4 w5 : World} {l R uv : List UInt8} {a2 a3 : Addr} (hR : Rd wr (some ⟨g, o, none⟩) (uv ++ (l ++ R))) (hg : g < D) (hb4 : Below D wr w4) (hb5 : Below D w4 w5)
    (ha2 : uv.length < (uv ++ (l ++ R)).length → a2 = ⟨g, o + uv.length, none⟩) (ha3 : l.length < (l ++ R).length → a3 = a2.add l.length) :
    Rd w5 (some a2) l ∧ Rd w5 (some a3) R ∧ (∀ g' o', some a3 = some ⟨g', o', none⟩ → R ≠ [] → g' < D) := by
  have h5 : Rd w5 (some ⟨g, o, none⟩) (uv ++ (l ++ R)) := hR.below (hb4.trans hb5) (fun g' o' e _ => by cases e; exact hg)
  refine ⟨?_, ?_, ?_⟩
  · by_cases e : l = []
    · exact .inl e
    · have hl : 0 < l.length := List.length_pos_iff.2 e
      rw [ha2 (by simp; omega)]
      exact h5.back.front
  · by_cases e : R = []
    · exact .inl e
    · have hl : 0 < R.length := List.length_pos_iff.2 e
      rw [ha3 (by simp; omega), ha2 (by simp; omega), add_plain]
      exact h5.back.back
  · intro g' o' e hne
    have hl : 0 < R.length := List.length_pos_iff.2 hne
    rw [ha3 (by simp; omega), ha2 (by simp; omega), add_plain] at e
    cases e; exact hg

set_option maxHeartbeats 4000000 in
theorem rt_some (ad : Addr) (cap : Nat) (LL : List (List UInt8)) (w : World) (hl : LL.length ≤ maxLen) (h : Flds w ad LL) :
    Calls Tryd.prog 3 #[.slice (some ad) LL.length cap] w fun e w' => e = .returned (.bool true) ∧ Below w.heap.size w w' := by
  have HF : Hid (Flds w ad LL) := h
  have HZ : Hid (Calls Tryd.prog 5 #[.slice (some ad) LL.length cap] w fun e w' => ZfPost w LL e w') := zf_any ad cap LL w hl h
  clear h
  unfold maxLen at hl
  go_enter Tryd.func3, Tryd.ntmps3
  go_wp2_with fail
  refine HZ.out.mono ?_
  rintro e w' ⟨y, rfl, rfl, hy⟩
  cases y with
  | false =>
    clear hy
    go_wp2
    go_ret
    exact ⟨rfl, Below.refl _ _⟩
  | true =>
    obtain ⟨hlen, hls⟩ := hy rfl
    have HLS : Hid (∀ j, j < LL.length → (LL.getD j []).length ≤ 1048576) := hls
    clear hy hls HZ
    by_cases h4 : (4096 : Int) < (LL.length : Int)
    · go_wp2
      go_ret
      exact ⟨rfl, Below.refl _ _⟩
    · go_wp2
      go_loop [3, 4] (fun t i => ∃ (k : Nat) (T : Int), k ≤ LL.length ∧ i = .int .i64 k ∧ t = .int .i64 T ∧ 0 ≤ T ∧ T ≤ 1048576 ∧ Hid (T = 24 * (LL.length : Int) + (tot (LL.take k) : Int))) (fun _ i => LL.length - (intOf i).toNat)
      case atStart => exact ⟨0, _, Nat.zero_le _, rfl, rfl, by omega, by omega, by show _ = _; simp [tot]⟩
      case round =>
        obtain ⟨k, T, hk, rfl, rfl, hT0, hT1, HT⟩ := hrel
        by_cases hlt : k < LL.length
        · obtain ⟨b, off, spot⟩ := ad
          obtain ⟨_, _, hc0, _⟩ := HF.out 0 (by omega)
          have hspot : spot = none := by simpa [Addr.add] using World.cell?_spot hc0
          subst hspot
          clear hc0
          obtain ⟨ao, cp, hc, _⟩ := HF.out k hlt
          obtain ⟨n, hn⟩ : ∃ n, n = (LL.getD k []).length := ⟨_, rfl⟩
          rw [← hn] at hc
          have hcell : w'.cell? ⟨b, off + k, none⟩ = some (.slice ao n cp) := by rw [← add_plain]; exact hc
          have hn2 : n ≤ 1048576 := by rw [hn]; exact HLS.out k hlt
          have HN : Hid (n = (LL.getD k []).length) := hn
          clear hc hn
          by_cases h3 : (1048576 : Int) < T + (n : Int)
          · go_wp2
            go_ret
            exact ⟨rfl, Below.refl _ _⟩
          · go_wp2
            go_round
            case rel => exact ⟨k + 1, T + (n : Int), by omega, by go_num, rfl, by omega, by omega, by show _ = _; rw [tot_take LL k hlt, ← HN.out, HT.out]; omega⟩
            case measure => simp [intOf]; omega
        · have hE : Hid ((enc LL).length ≤ 1048576) := by
            have h1 := enc_len LL (mem_len HLS.out)
            have h2 := HT.out
            rw [List.take_of_length_le (by omega)] at h2
            show _ ≤ _; omega
          clear HT
          go_wp2_with fail
          refine (cf_some ad cap LL hlen _ HF.out HLS.out).mono ?_
          rintro e w1 ⟨fo, rfl, hcl, hb1⟩
          have HC : Hid (Cloned w1 fo LL) := hcl
          have HB1 : Hid (Below w'.heap.size w' w1) := hb1
          clear hcl hb1
          go_wp2
          go_loopw [5, 6] (fun v i wr => ∃ j : Nat, j ≤ LL.length ∧ i = .int .i64 j ∧ wr.ownsRow w1.heap.size 5 1 v (enc (LL.take j)).length (bcells (enc (LL.take j))) ∧ Below w1.heap.size w1 wr) (fun _ i _ => LL.length - (intOf i).toNat)
          case atStart => exact ⟨0, Nat.zero_le _, rfl, World.ownsRow_nil _ _ _ _, Below.refl _ _⟩
          case round =>
            obtain ⟨j, hj, rfl, hown, hbel⟩ := hrel
            by_cases hjl : j < LL.length
            · obtain ⟨B, ao, hfo, hcf, hat⟩ := HC.out.pos hjl
              obtain ⟨l, hll⟩ : ∃ l, l = LL.getD j [] := ⟨_, rfl⟩
              rw [← hll] at hcf hat
              have hcell : wr.cell? ⟨B, j, none⟩ = some (.slice ao l.length l.length) := by rw [← hcf]; exact hbel.cell (p := ⟨B, j, none⟩) (World.block_lt_of_cell? w1 _ hcf)
              have hl2 : l.length ≤ 1048576 := by rw [hll]; exact HLS.out j hjl
              have HLL : Hid (l = LL.getD j []) := hll
              have HAT : Hid (At w1 ao l) := hat
              have HEL : Hid ((enc (LL.take j)).length ≤ 10000000) := by have h1 := enc_take_le LL j; have h2 := hE.out; show _ ≤ _; omega
              have HOWN := hown
              subst hfo
              clear hcf hll hat hown
              go_wp2_with fail
              refine (zab_own w1 ao _ _ (enc (LL.take j)) l _ hbel HAT.out HOWN HEL.out hl2).mono ?_
              rintro e w2 ⟨v2, rfl, hown2, hb2⟩
              have HO : Hid (w2.ownsRow w1.heap.size 5 1 v2 (enc (LL.take (j + 1))).length (bcells (enc (LL.take (j + 1))))) := by
                show w2.ownsRow _ _ _ _ _ _
                rw [enc_take LL j hjl, ← HLL.out]; exact hown2
              clear hown2 HOWN hbel
              go_wp2
              go_roundw
              case rel => exact ⟨j + 1, by omega, by go_num, HO.out, hb2⟩
              case measure => simp [intOf]; omega
            · have hjj : j = LL.length := by omega
              rw [hjj, List.take_of_length_le (Nat.le_refl _)] at hown
              obtain ⟨bo, bc, hv, hnl, hbc, hbm, hrd⟩ := own_shape hown
              have HRD : Hid (Rd wr bo (enc LL)) := hrd
              have HBW : Hid (Below w1.heap.size w1 wr) := hbel
              subst hv
              clear hown hrd hnl hjj hbel
              go_wp2_with fail
              refine (nd_any bo _ bc _).mono ?_
              rintro e w3 ⟨rfl, hw3⟩
              have HB3 : Hid (Below wr.heap.size wr w3) := by rw [hw3]; exact (Below.refl _ _).alloc (Nat.le_refl _) _
              have HD3 : Hid (Dec w3 wr.heap.size (.slice bo (enc LL).length bc) .nilIface) := by rw [hw3]; exact Dec.made _ _ _
              have HR3 : Hid (Rd w3 bo (enc LL)) := HRD.out.below HB3.out (fun g o hg hne => by
                rcases HRD.out with h | ⟨g', o', h1, h2, _⟩
                · exact absurd h hne
                · rw [h1] at hg; cases hg; exact h2)
              have HCr : Hid (Cloned wr fo LL) := HC.out.below HBW.out
              have HBr : Hid (Below w'.heap.size w' wr) := HB1.out.trans (HBW.out.mono HB1.out.size)
              have hwr : w'.heap.size ≤ wr.heap.size := HBr.out.size
              clear hw3
              obtain ⟨wd, hwd⟩ : ∃ wd : World, wd = wr := ⟨_, rfl⟩
              subst hwd
              go_wp2
              go_loopw [8] (fun i wr => ∃ (q c : Nat) (ao : Option Addr), q ≤ LL.length ∧ i = .int .i64 q ∧ Hid (Dec wr wd.heap.size (.slice ao (enc (LL.drop q)).length c) .nilIface) ∧ Hid (Rd wr ao (enc (LL.drop q))) ∧ Hid (∀ g o, ao = some ⟨g, o, none⟩ → enc (LL.drop q) ≠ [] → g < wd.heap.size) ∧ (enc (LL.drop q)).length ≤ c ∧ c ≤ maxLen ∧ Hid (Below wd.heap.size wd wr)) (fun i _ => LL.length - (intOf i).toNat)
              case atStart => exact ⟨0, bc, bo, Nat.zero_le _, rfl, HD3.out, HR3.out, (fun g o hg hne => by
                rcases HRD.out with h | ⟨g', o', h1, h2, _⟩
                · exact absurd h hne
                · rw [h1] at hg; cases hg; exact h2), hbc, hbm, HB3.out⟩
              case round =>
                clear HD3 HR3 HB3 hbc hbm HRD
                obtain ⟨q, c, ao, hq, rfl, HD, HR, HG, hc1, hc2, HB⟩ := hrel
                by_cases hql : q < LL.length
                · obtain ⟨l, hll⟩ : ∃ l, l = LL.getD q [] := ⟨_, rfl⟩
                  obtain ⟨R, hRR⟩ : ∃ R, R = enc (LL.drop (q + 1)) := ⟨_, rfl⟩
                  have hdat : enc (LL.drop q) = Lib.uvarint l.length ++ (l ++ R) := by rw [hll, hRR]; exact enc_drop LL q hql
                  have hl2 : l.length ≤ 1048576 := by rw [hll]; exact HLS.out q hql
                  have hN : (enc (LL.drop q)).length ≤ 1048576 := by have h1 := enc_le_drop LL q; have h2 := hE.out; omega
                  rw [hdat] at HD HR HG hc1 hN
                  obtain ⟨uv, huv⟩ : ∃ uv, uv = Lib.uvarint l.length := ⟨_, rfl⟩
                  have hup : 1 ≤ uv.length := by rw [huv]; exact Lib.uvarint_pos _
                  have HDE : Hid (Lib.uvarintDec (uv ++ (l ++ R)) = (l.length, (uv.length : Int))) := by rw [huv]; exact dec_enc _ _ hl2
                  rw [← huv] at HD HR HG hc1 hN
                  obtain ⟨g, o, hao, hglt, _⟩ := HR.out.pos (by simp; omega)
                  have HGD : Hid (g < wd.heap.size) := HG.out g o hao (by intro e; rw [e] at hN; have h0 := congrArg List.length e; rw [List.length_append] at h0; simp only [List.length_nil] at h0; omega)
                  subst hao
                  have HLL : Hid (l = LL.getD q []) := hll
                  have HRR : Hid (R = enc (LL.drop (q + 1))) := hRR
                  have HCQ : Hid (Cloned wr fo LL) := HCr.out.below HB.out
                  have HSUM : Hid ((uv ++ (l ++ R)).length = uv.length + (l.length + R.length)) := by show _ = _; simp
                  clear hll hRR huv hdat HG hglt
                  go_wp2_with fail
                  refine (zc_ok wd.heap.size g o c l.length uv.length (uv ++ (l ++ R)) _ HD.out HR.out HDE.out hup (by have := HSUM.out; omega) (by omega) hc1 hc2).mono ?_
                  rintro e w4 ⟨a2, rfl, hD4, ha2, hb4⟩
                  have e4 : (uv ++ (l ++ R)).length - uv.length = (l ++ R).length := by simp
                  rw [e4] at hD4
                  have HD4 : Hid (Dec w4 wd.heap.size (.slice (some a2) (l ++ R).length (c - uv.length)) .nilIface) := hD4
                  have HA2 : Hid (uv.length < (uv ++ (l ++ R)).length → a2 = ⟨g, o + uv.length, none⟩) := ha2
                  have HB4 : Hid (Below wd.heap.size wr w4) := hb4
                  have HLR : Hid ((l ++ R).length = l.length + R.length) := by show _ = _; simp
                  obtain ⟨B, af, hfo, hcf, haf⟩ := (HCr.out.below (HB.out.trans hb4)).pos hql
                  rw [← HLL.out] at hcf haf
                  have HAF : Hid (At w4 af l) := haf
                  subst hfo
                  have hBlt : B < wd.heap.size := by
                    obtain ⟨B', _, e1, c1, _⟩ := HCr.out.pos hql
                    cases e1; exact World.block_lt_of_cell? wd _ c1
                  clear hD4 ha2 hb4 haf e4
                  go_wp2_with fail
                  refine (zb_ok wd.heap.size (l ++ R).length (c - uv.length) l.length a2 _ HD4.out (by have := HLR.out; omega) (by have := HLR.out; have := HSUM.out; omega) (by omega)).mono ?_
                  rintro e w5 ⟨a3, rfl, hD5, ha3, hb5⟩
                  have hcf5 : w5.cell? ⟨B, q, none⟩ = some (.slice af l.length l.length) := by rw [← hcf]; exact hb5.cell (p := ⟨B, q, none⟩) hBlt
                  have RS := read_step HR.out HGD.out HB4.out hb5 HA2.out ha3
                  have HF1 : Hid (Rd w5 (some a2) l) := RS.1
                  have HF2 : Hid (Rd w5 (some a3) R) := RS.2.1
                  have HF3 : Hid (∀ g' o', some a3 = some ⟨g', o', none⟩ → R ≠ [] → g' < wd.heap.size) := RS.2.2
                  have e5 : (l ++ R).length - l.length = R.length := by simp
                  rw [e5] at hD5
                  have HD5 : Hid (Dec w5 wd.heap.size (.slice (some a3) R.length (c - uv.length - l.length)) .nilIface) := hD5
                  have HB5 : Hid (Below wd.heap.size wd w5) := HB.out.trans (HB4.out.trans hb5)
                  have HAF5 : Hid (Rd w5 af l) := by
                    have h1 := (HCr.out.below HB5.out).pos hql
                    obtain ⟨B', af', e1, c1, at1⟩ := h1
                    cases e1
                    rw [← HLL.out] at c1 at1
                    rw [hcf5] at c1
                    cases c1
                    exact at1.rd
                  clear hcf hD5 ha3 hb5 RS e5
                  go_wp2_with fail
                  refine (eq_same (some a2) af (c - uv.length) l.length l _ HF1.out HAF5.out (by omega)).mono ?_
                  rintro e w6 ⟨qq, rfl, rfl⟩
                  go_wp2
                  go_roundw
                  case rel =>
                    refine ⟨q + 1, c - uv.length - l.length, some a3, by omega, by go_num, ?_, ?_, ?_, ?_, by omega, ?_⟩
                    · rw [← HRR.out]; exact HD5.out.drewN qq
                    · rw [← HRR.out]; exact HF2.out.drewN qq
                    · rw [← HRR.out]; exact HF3.out
                    · rw [← HRR.out]; have := HSUM.out; omega
                    · exact below_drewN HB5.out qq
                  case measure => simp [intOf]; omega
                · have e0 : LL.drop q = [] := List.drop_eq_nil_of_le (by omega)
                  have HD0 : Hid (Dec wr wd.heap.size (.slice ao 0 c) .nilIface) := by have := HD.out; rw [e0] at this; exact this
                  clear HD HR HG hc1 e0
                  go_wp2_with fail
                  refine (dc_nil wd.heap.size _ HD0.out.err).mono ?_
                  rintro e w5 ⟨rfl, rfl⟩
                  go_wp2_with fail
                  refine (dd_any wd.heap.size _ _ HD0.out.data).mono ?_
                  rintro e w6 ⟨rfl, rfl⟩
                  go_wp2
                  go_ret
                  exact ⟨rfl, HBr.out.trans (HB.out.mono hwr)⟩

/-- No fields: nil. -/
theorem rt_nil (w : World) : Calls Tryd.prog 3 #[.slice none 0 0] w fun e w' => e = .returned (.bool true) ∧ Below w.heap.size w w' := by
  go_enter Tryd.func3, Tryd.ntmps3
  go_wp2_with fail
  refine (zf_empty _ _ _).mono ?_
  rintro e wa ⟨rfl, rfl⟩
  go_wp2
  go_loop [3, 4] (fun _ i => i = .int .i64 0) (fun _ _ => 0)
  case atStart => rfl
  case round =>
    subst hrel
    go_wp2_with fail
    refine (cf_nil _).mono ?_
    rintro e wb ⟨rfl, rfl⟩
    go_wp2
    go_loop [5, 6] (fun v i => v = .slice none 0 0 ∧ i = .int .i64 0) (fun _ _ => 0)
    case atStart => exact ⟨rfl, rfl⟩
    case round =>
      obtain ⟨rfl, rfl⟩ := hrel
      go_wp2_with fail
      refine (nd_any _ _ _ _).mono ?_
      rintro e w3 ⟨rfl, hw3⟩
      have HB3 : Hid (Below wb.heap.size wb w3) := by rw [hw3]; exact (Below.refl _ _).alloc (Nat.le_refl _) _
      have HD3 : Hid (Dec w3 wb.heap.size (.slice none 0 0) .nilIface) := by rw [hw3]; exact Dec.made _ _ _
      clear hw3
      go_wp2
      go_loop [8] (fun i => i = .int .i64 0) (fun _ => 0)
      case atStart => rfl
      case round =>
        subst hrel
        go_wp2_with fail
        refine (dc_nil _ _ HD3.out.err).mono ?_
        rintro e w5 ⟨rfl, rfl⟩
        go_wp2_with fail
        refine (dd_any _ _ _ HD3.out.data).mono ?_
        rintro e w6 ⟨rfl, rfl⟩
        go_wp2
        go_ret
        exact ⟨rfl, HB3.out⟩
end Go.Proofs.Qxb6605731aDoor
