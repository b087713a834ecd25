/- The walk of 'FnContentLengthRoundTrip' inside its bounds. -/
import Derived.Test.Qxb6605682aDecimal
import Derived.Test.Qxb6605682aLength
namespace Go.Proofs.Qxb6605682a
open Go.ChangeShapes Go.WideShapes Go.ChangeAt Go.RowKit
open Plain

def zeros (k : Nat) : List UInt8 := List.replicate k 48
theorem zeros_succ (k : Nat) : zeros (k + 1) = zeros k ++ [48] := by simp [zeros, List.replicate_succ']
theorem zeros_digs (k : Nat) : digs (zeros k) = true := by
  induction k with
  | zero => rfl
  | succ k ih => rw [zeros_succ, digs_snoc, ih]; rfl
theorem zeros_num (k : Nat) : num (zeros k) = 0 := by
  induction k with
  | zero => rfl
  | succ k ih => rw [zeros_succ, num_snoc, ih]; rfl
theorem zeros_len (k : Nat) : (zeros k).length = k := by simp [zeros]

/-- A slice of bytes that is read: it begins at the head of block g. -/
def Bytes (w : World) (g : Nat) (ls : List UInt8) : Prop := g < w.heap.size ∧ ∀ j, j < ls.length → w.cell? ⟨g, j, none⟩ = some (.int .u8 ((ls.getD j 0).toNat : Int))

theorem bytes_of_owns {w : World} {B n : Nat} {v : Value} {ls : List UInt8} (h : w.ownsRow B 5 1 v n (bcells ls)) (hn : 1 ≤ n) : ∃ g cap, v = .slice (some ⟨g, 0, none⟩) n cap ∧ B ≤ g ∧ ls.length = n ∧ Bytes w g ls := by
  have hl := h.1
  rcases h.2 with ⟨_, h0⟩ | ⟨g, cap, cur, rfl, hb, hg, _⟩
  · omega
  · have hl' : ls.length = n := by simpa [bcells] using hl
    refine ⟨g, cap, rfl, hb, hl', lt_of_block hg, fun j hj => ?_⟩
    rw [h.cellAt j (by omega)]
    simp [bcells, List.getD, hj]

theorem Bytes.below {w w' : World} {g B : Nat} {ls : List UInt8} (h : Bytes w g ls) (hb : Below B w w') (hg : g < B) : Bytes w' g ls :=
  ⟨Nat.lt_of_lt_of_le h.1 hb.size, fun j hj => (hb.cell (p := ⟨g, j, none⟩) hg).trans (h.2 j hj)⟩

/-- 'string(b)' of such a slice. -/
theorem Bytes.str {w : World} {g n cap : Nat} {ls : List UInt8} (h : Bytes w g ls) (hn : ls.length = n) : (convert 26 9 (.slice (some ⟨g, 0, none⟩) n cap)).run Try.prog w = .ok (.string ⟨ls.toArray⟩) w := by
  subst hn
  refine run_convert_bytes_back w 26 9 5 ⟨g, 0, none⟩ cap ls Try.underlying26 Try.underlying5 Try.underlying9 (fun j hj => ?_)
  have := h.2 j hj
  have e : ls.getD j 0 = ls[j] := by simp [List.getD, hj]
  rw [e] at this
  have e2 : (⟨g, 0, none⟩ : Addr).add j = ⟨g, j, none⟩ := by rw [add_plain]; simp
  rw [e2]; exact this

/-- 'appendDecimal' behind zeros. -/
theorem dec_text (B k : Nat) (sv : Value) (n : Int) (w : World) (hown : w.ownsRow B 5 1 sv k (bcells (zeros k))) (hB : B ≤ w.heap.size) (hn : 0 ≤ n) (hn2 : n ≤ 999999999999999999) (hk : k ≤ 4096) :
    Calls Try.prog 10 #[sv, .int .i64 n] w fun e w' => ∃ g cap N ls, e = .returned (.slice (some ⟨g, 0, none⟩) N cap) ∧ ls.length = N ∧ 1 ≤ N ∧ N ≤ 5000 ∧ B ≤ g ∧ Bytes w' g ls ∧ digs ls = true ∧ num ls = n ∧ Below B w w' := by
  refine (dec_all B k sv _ n w hown hB hn hn2 (by omega)).mono ?_
  rintro e w' ⟨v', ds, rfl, hd, hv, h1, h2, ho, hb⟩
  have e1 : bcells (zeros k) ++ bcells ds = bcells (zeros k ++ ds) := by simp [bcells]
  rw [e1] at ho
  obtain ⟨g, cap, rfl, hg, hl, hby⟩ := bytes_of_owns ho (by omega)
  refine ⟨g, cap, _, zeros k ++ ds, rfl, hl, by omega, by omega, hg, hby, ?_, ?_, hb⟩
  · rw [digs_append, zeros_digs, hd]; rfl
  · rw [num_append, zeros_num, hv]; omega

/-- One zero more. -/
theorem zero_keep {w wr w1 : World} {B k : Nat} {v v' : Value} {o : Obj} (hB : B ≤ w.heap.size) (hbel : Below B w wr) (hown : wr.ownsRow B 5 1 v k (bcells (zeros k)))
    (hown' : w1.ownsRow B 5 1 v' (k + 1) (bcells (zeros k) ++ [.int .u8 48])) (hg : (wr.alloc o).grownBy w1 v.ownBlock) :
    w1.ownsRow B 5 1 v' (k + 1) (bcells (zeros (k + 1))) ∧ Below B w w1 := by
  refine ⟨?_, ?_⟩
  · rw [zeros_succ, bcells_snoc]
    exact hown'
  · exact (hbel.alloc (Nat.le_trans hB hbel.size) o).grown hg (by simp; have := hbel.size; omega) (fun k hk => (hown.lt k hk).1)

/-- The memory behind the first two calls. -/
theorem keep_two {w w2 w3 : World} {g : Nat} {ls : List UInt8} {o1 o2 : Obj} (HB : Below w.heap.size w w2) (hby : Bytes w2 g ls) (hb3 : Below (w2.heap.size + 1) (w2.alloc o1) w3) :
    Below w.heap.size w (w3.alloc o2) ∧ Bytes (w3.alloc o2) g ls ∧ g < w3.heap.size + 1 ∧ w.heap.size ≤ w3.heap.size := by
  have h1 := HB.size
  have h2 := hb3.size
  simp at h2
  have h3 : Below w.heap.size w w3 := (HB.alloc h1 o1).trans (hb3.mono (by omega))
  have h4 : Below w2.heap.size w2 w3 := ((Below.refl _ w2).alloc (Nat.le_refl _) o1).trans (hb3.mono (by omega))
  have h5 : Bytes w3 g ls := hby.below h4 hby.1
  refine ⟨h3.alloc (by omega) o2, h5.below ((Below.refl w3.heap.size w3).alloc (Nat.le_refl _) o2) h5.1, ?_, ?_⟩
  · have := h5.1; omega
  · omega

/-- The memory behind a make or an append whose row lies from B2 on. -/
theorem keep_grown {w wr w1 : World} {g B2 : Nat} {ls : List UInt8} {row : Option Nat} (hbel : Below w.heap.size w wr) (hby : Bytes wr g ls) (hg2 : g < B2) (hB2 : B2 ≤ wr.heap.size) (hB : w.heap.size ≤ B2) (hg : wr.grownBy w1 row) (hr : ∀ k, row = some k → B2 ≤ k) :
    Below w.heap.size w w1 ∧ Bytes w1 g ls ∧ B2 ≤ w1.heap.size := by
  have h : Below B2 wr w1 := (Below.refl _ _).grown hg hB2 hr
  exact ⟨hbel.trans (h.mono hB), hby.below h hg2, Nat.le_trans hB2 h.size⟩

/-- One byte more behind the plus. -/
theorem plus_keep {w wr w1 : World} {g B2 k : Nat} {ls : List UInt8} {v v' : Value} {o : Obj} {cv : Int} (hbel : Below w.heap.size w wr) (hby : Bytes wr g ls) (hg2 : g < B2) (hB2 : B2 ≤ wr.heap.size) (hB : w.heap.size ≤ B2)
    (hown : wr.ownsRow B2 5 1 v (k + 1) (bcells (43 :: ls.take k))) (hk : k < ls.length) (hcv : cv = ((ls.getD k 0).toNat : Int))
    (hown' : w1.ownsRow B2 5 1 v' (k + 1 + 1) (bcells (43 :: ls.take k) ++ [.int .u8 cv])) (hg : (wr.alloc o).grownBy w1 v.ownBlock) :
    w1.ownsRow B2 5 1 v' (k + 1 + 1) (bcells (43 :: ls.take (k + 1))) ∧ Below w.heap.size w w1 ∧ Bytes w1 g ls ∧ B2 ≤ w1.heap.size := by
  refine ⟨?_, ?_⟩
  · have e : (43 : UInt8) :: ls.take (k + 1) = (43 :: ls.take k) ++ [ls.getD k 0] := by rw [take_step ls k hk]; rfl
    rw [e, bcells_snoc, ← hcv]
    exact hown'
  · exact keep_grown (hbel.alloc (Nat.le_trans hB hB2) o) (hby.below ((Below.refl wr.heap.size wr).alloc (Nat.le_refl _) o) hby.1) hg2 (by simp; omega) hB hg (fun k hk => (hown.lt k hk).1)

theorem fits_text {st : ByteArray} {ls : List UInt8} {n : Int} {N : Nat} (HL : st.data.toList = ls) (hN : 1 ≤ N) (hsz : st.size = N) (hl : ls.length = N) (hd : digs ls = true) (hv : num ls = n) :
    ((st.size : Int) ≤ 18 ∧ clB st.data.toList = true ∧ clN st.data.toList = n) ∨ ((18 : Int) < (st.size : Int) ∧ clB st.data.toList = false ∧ clN st.data.toList = 0) := by
  rw [HL, hsz]
  by_cases h : N ≤ 18
  · have hb : clB ls = true := clB_true (by omega) (by omega) hd
    exact .inl ⟨by omega, hb, by rw [clN_true hb, hv]⟩
  · have hb : clB ls = false := clB_long (by omega)
    exact .inr ⟨by omega, hb, clN_false hb⟩

theorem plus_not (ls : List UInt8) : clB (43 :: ls) = false := clB_digs (by rw [digs_cons]; rfl)

set_option maxHeartbeats 2000000 in
theorem round_in (n z : Int) (hn : 0 ≤ n) (hn2 : n ≤ 999999999999999999) (hz : 0 ≤ z) (hz2 : z ≤ 4096) (w : World) :
    Calls Try.prog 4 #[.int .i64 n, .int .i64 z] w fun e w' => e = .returned (.bool true) ∧ Below w.heap.size w w' := by
  obtain ⟨i0, hi, hz0, hz1, hzb⟩ := info_parts Try.info5
  have g1 : ¬ n < 0 := by omega
  have g2 : ¬ 999999999999999999 < n := by omega
  have g3 : ¬ z < 0 := by omega
  have g4 : ¬ 4096 < z := by omega
  go_enter Try.func4, Try.ntmps4
  go_wp2_with (at_make; refine wpList_make_own _ rfl _ _ 26 rfl w.heap.size 5 i0 (.int .u8 0) 1 Try.underlying26 hi hz0 hz1 .i64 .i64 32 32 rfl rfl (by omega) (by rw [hzb]; omega) (by unfold maxLen; omega) (by simp) ?_)
  intro w0 hown0 hgrow0
  have hbel0 : Below w.heap.size w w0 := (Below.refl _ _).grown hgrow0 (Nat.le_refl _) (fun k hk => by cases hk)
  clear hgrow0
  go_wp2
  go_loopw [5, 6] (fun v i wr => ∃ k : Nat, (k : Int) ≤ z ∧ i = .int .i64 k ∧ wr.ownsRow w.heap.size 5 1 v k (bcells (zeros k)) ∧ Below w.heap.size w wr) (fun _ i _ => (z - intOf i).toNat)
  case atStart => exact ⟨0, by omega, rfl, hown0, hbel0⟩
  case round =>
    clear hown0 hbel0
    obtain ⟨k, hk, rfl, hown, hbel⟩ := hrel
    by_cases hlt : (k : Int) < z
    · go_wp2_with (at_builtin; refine wpList_append_own _ rfl _ _ 26 rfl w.heap.size 5 i0 (.int .u8 0) 1 1 Try.underlying26 hi hz0 hz1 hzb rfl (by decide) _ _ _ rfl (hown.alloc _) ⟨wr.heap.size, 0, none⟩ 1 1 [.int .u8 48] rfl rfl ?c1 ?c2 ?c3 ?c4 ?c5 ?_)
      case c1 =>
        intro j u hj
        match j, hj with
        | 0, hj => simp at hj; subst hj; simp [Addr.add]
      case c2 => intro u hu; simp at hu; subst hu; rfl
      case c3 => unfold maxLen; omega
      case c4 => omega
      case c5 => have := hbel.size; simp; omega
      intro v' w1 hown' hgrow _
      have R := zero_keep (Nat.le_refl _) hbel hown hown' hgrow
      clear hown' hgrow hown hbel
      go_wp2
      go_roundw
      case rel => exact ⟨k + 1, by omega, by go_num, R.1, R.2⟩
      case measure => simp [intOf]; omega
    · have hkz : Hid (z = k) := by show _ = _; omega
      go_wp2_with fail
      refine (dec_text w.heap.size k _ n wr hown hbel.size hn hn2 (by omega)).mono ?_
      rintro e w2 ⟨g, cap, N, ls, rfl, hlN, hN1, hN2, hg, hby, hd, hv, hb2⟩
      obtain ⟨st, hst⟩ : ∃ st : ByteArray, st = ⟨ls.toArray⟩ := ⟨_, rfl⟩
      have hcv : (convert 26 9 (.slice (some ⟨g, 0, none⟩) N cap)).run Try.prog w2 = .ok (.string st) w2 := by rw [hst]; exact hby.str hlN
      have HL : Hid (st.data.toList = ls) := by show _ = _; rw [hst]
      have hsz : Hid (st.size = N) := by show _ = _; rw [hst, ← hlN]; rfl
      have HlN : Hid (ls.length = N) := hlN
      have HD : Hid (digs ls = true) := hd
      have HV : Hid (num ls = n) := hv
      have HB : Hid (Below w.heap.size w w2) := hbel.trans hb2
      clear hst hlN hd hv hbel hb2 hown
      go_wp2_with fail
      refine (zz_one w2.heap.size 0 1 st _ ?_).mono ?_
      · simp
      rintro e w3 ⟨rfl, hb3⟩
      have hfit := fits_text HL.out hN1 hsz.out HlN.out HD.out HV.out
      rcases hfit with ⟨f1, f2, f3⟩ | ⟨f1, f2, f3⟩
      all_goals
        go_wp2_with fail
        refine (zz_many _ 2 2 (Nat.le_refl _) _).mono ?_
        rintro e w4 ⟨rfl, rfl⟩
        have K2 := keep_two (o2 := .cells #[.string st, .string st] 9) HB.out hby (by simpa using hb3)
        obtain ⟨hbel4, hby4, hgB, hwB⟩ := K2
        clear f1 f2 f3 hcv hby hb3
        go_wp2_with (at_make; refine wpList_make_own _ rfl _ _ 26 rfl (w3.heap.size + 1) 5 i0 (.int .u8 0) 1 Try.underlying26 hi hz0 hz1 .i64 .i64 _ (N + 1) rfl rfl (by omega) (by rw [hzb]; omega) (by unfold maxLen; omega) (by simp) ?_)
        intro w5 hown5 hgrow5
        have hB2 : w3.heap.size + 1 ≤ w5.heap.size := by have := hgrow5.size; simpa using this
        have K5 := keep_grown (B2 := w3.heap.size + 1) hbel4 hby4 hgB (by simp) (by omega) hgrow5 (fun k hk => by cases hk)
        obtain ⟨hbel5, hby5, _⟩ := K5
        clear hbel4 hby4 hgrow5
        go_wp2_with (at_builtin; refine wpList_append_own _ rfl _ _ 26 rfl (w3.heap.size + 1) 5 i0 (.int .u8 0) 1 1 Try.underlying26 hi hz0 hz1 hzb rfl (by decide) _ _ _ rfl (hown5.alloc _) ⟨w5.heap.size, 0, none⟩ 1 1 [.int .u8 43] rfl rfl ?_ ?_ ?_ ?_ ?_ ?_)
        · intro j u hj
          match j, hj with
          | 0, hj => simp at hj; subst hj; simp [Addr.add]
        · intro u hu; simp at hu; subst hu; rfl
        · unfold maxLen; omega
        · omega
        · simp; omega
        intro v6 w6 hown6 hgrow6 _
        have K6 := keep_grown (B2 := w3.heap.size + 1) (hbel5.alloc (by omega) _) (hby5.below ((Below.refl w5.heap.size w5).alloc (Nat.le_refl _) _) hby5.1) hgB (by simp; omega) (by omega) hgrow6 (fun k hk => (hown5.lt k hk).1)
        obtain ⟨hbel6, hby6, hB6⟩ := K6
        have hown6' : w6.ownsRow (w3.heap.size + 1) 5 1 v6 (0 + 1) (bcells (43 :: ls.take 0)) := hown6
        clear hbel5 hby5 hgrow6 hown5 hB2 hown6
        go_wp2
        go_loopw [12, 13] (fun v i wr => ∃ k : Nat, k ≤ N ∧ i = .int .i64 k ∧ wr.ownsRow (w3.heap.size + 1) 5 1 v (k + 1) (bcells (43 :: ls.take k)) ∧ Below w.heap.size w wr ∧ Bytes wr g ls ∧ w3.heap.size + 1 ≤ wr.heap.size) (fun _ i _ => N - (intOf i).toNat)
        case atStart => exact ⟨0, by omega, rfl, hown6', hbel6, hby6, hB6⟩
        case round =>
          clear hbel6 hby6 hB6 hown6'
          obtain ⟨k2, hk2, rfl, hown, hbel, hby, hBr⟩ := hrel
          by_cases hlt : k2 < N
          · obtain ⟨cv, hcv⟩ : ∃ cv : Int, cv = ((ls.getD k2 0).toNat : Int) := ⟨_, rfl⟩
            have hcell : wr.cell? ⟨g, k2, none⟩ = some (.int .u8 cv) := by rw [hcv]; exact hby.2 k2 (by rw [HlN.out]; omega)
            have HC : Hid (cv = ((ls.getD k2 0).toNat : Int)) := hcv
            clear hcv
            go_wp2_with (at_builtin; refine wpList_append_own _ rfl _ _ 26 rfl (w3.heap.size + 1) 5 i0 (.int .u8 0) 1 1 Try.underlying26 hi hz0 hz1 hzb rfl (by decide) _ _ _ rfl (hown.alloc _) ⟨wr.heap.size, 0, none⟩ 1 1 [.int .u8 cv] rfl rfl ?_ ?_ ?_ ?_ ?_ ?_)
            · intro j u hj
              match j, hj with
              | 0, hj => simp at hj; subst hj; simp [Addr.add]
            · intro u hu; simp at hu; subst hu; rfl
            · unfold maxLen; omega
            · omega
            · simp; omega
            intro v' w1 hown' hgrow _
            have R := plus_keep hbel hby hgB hBr (by omega) hown (by rw [HlN.out]; omega) HC.out hown' hgrow
            clear hown' hgrow hown hbel hby hBr hcell
            go_wp2
            go_roundw
            case rel => exact ⟨k2 + 1, by omega, by go_num, R.1, R.2.1, R.2.2.1, R.2.2.2⟩
            case measure => simp [intOf]; omega
          · obtain ⟨g2, cap2, hv2, hg2, hl2, hby2⟩ := bytes_of_owns hown (by omega)
            subst hv2
            obtain ⟨st2, hst2⟩ : ∃ st2 : ByteArray, st2 = ⟨(43 :: ls.take k2).toArray⟩ := ⟨_, rfl⟩
            have hcv2 : (convert 26 9 (.slice (some ⟨g2, 0, none⟩) (k2 + 1) cap2)).run Try.prog wr = .ok (.string st2) wr := by rw [hst2]; exact hby2.str hl2
            have f4 : clB st2.data.toList = false := by rw [hst2]; exact plus_not _
            have f5 : clN st2.data.toList = 0 := clN_false f4
            have HBr : Hid (Below w.heap.size w wr) := hbel
            clear hst2 hown hbel hby hby2 hBr hg2 hl2
            go_wp2_with fail
            refine (zz_one wr.heap.size 0 1 st2 _ ?_).mono ?_
            · simp
            rintro e w9 ⟨rfl, hb9⟩
            have hb10 : Below w.heap.size w w9 := (HBr.out.alloc HBr.out.size _).trans (hb9.mono (by have := HBr.out.size; simp; omega))
            clear hb9 hcv2
            go_wp2
            go_ret
            exact ⟨rfl, hb10⟩
end Go.Proofs.Qxb6605682a
