/- The proof of 'Rows.FnBodyAllowedCountSaid': the frame after the seat's shell; the walk is ours. -/
import Derived.Test.Qxb6605682aRows
import Derived.WalkKit
import Derived.ProofKit
import Derived.OpenShut
import Derived.ShutString
import Derived.Test.Qxb6605682aBody
namespace Go.Proofs.Qxb6605682a.fnBodyAllowedCount
open Go.ChangeShapes Go.WideShapes Go.ChangeAt Go.RowKit
open Go.ChangeMaps (open_string shut_string)
set_option linter.unusedVariables false      -- a walk need not use every 'w<i>' (that an integer argument fits its kind)

theorem own : ownKnob Try.prog.godebug = none := by kernel_rfl

/-- The closed count: how many statuses of [lo, s) may have a body. -/
def cnt (lo s : Int) : Int := (if lo < 200 then (if 200 < s then s - 200 else 0) else s - lo) - (if lo ≤ 204 ∧ 204 < s then 1 else 0) - (if lo ≤ 304 ∧ 304 < s then 1 else 0)
theorem cnt_bd (lo s : Int) (h : lo ≤ s) : 0 ≤ cnt lo s ∧ cnt lo s ≤ s - lo := by
  unfold cnt; repeat' split
  all_goals omega
theorem cnt_start (lo : Int) : cnt lo lo = 0 := by
  unfold cnt; repeat' split
  all_goals omega
theorem cnt_yes (lo s : Int) (h : lo ≤ s) (hb : allowB s = true) : cnt lo (s + 1) = cnt lo s + 1 := by
  simp [allowB] at hb
  unfold cnt; repeat' split
  all_goals omega
theorem cnt_no (lo s : Int) (h : lo ≤ s) (hb : allowB s = false) : cnt lo (s + 1) = cnt lo s := by
  have hb' : s < 200 ∨ s = 204 ∨ s = 304 := by
    by_cases h1 : s < 200
    · exact .inl h1
    · by_cases h2 : s = 204
      · exact .inr (.inl h2)
      · by_cases h3 : s = 304
        · exact .inr (.inr h3)
        · rw [allowB_true (by omega) h2 h3] at hb; cases hb
  unfold cnt; repeat' split
  all_goals omega

theorem u64_gap (lo hi : Int) (h : lo ≤ hi) (h' : hi - lo ≤ 18446744073709551615) : IntKind.u64.wrap (IntKind.u64.wrap hi - IntKind.u64.wrap lo) = hi - lo := by
  rw [IntKind.wrap_u64, IntKind.wrap_u64, IntKind.wrap_u64]; omega

set_option maxHeartbeats 1000000 in
theorem walk_in (lo hi : Int) (h0 : -9223372036854775808 ≤ lo) (h1 : hi ≤ 9223372036854775807) (hle : lo ≤ hi) (hd : hi - lo ≤ 65536) (w : World) :
    Calls Try.prog 6 #[.int .i64 lo, .int .i64 hi] w fun e w' => e = .returned (.bool true) ∧ Grown w w' := by
  have hg : ¬ hi < lo := by omega
  have hu : ¬ 65536 < IntKind.u64.wrap (IntKind.u64.wrap hi - IntKind.u64.wrap lo) := by rw [u64_gap lo hi hle (by omega)]; omega
  go_enter Try.func6, Try.ntmps6
  go_wp2
  clear hu
  go_loop [5, 6] (fun c i => ∃ s : Int, lo ≤ s ∧ s ≤ hi ∧ i = .int .i64 s ∧ c = .int .i64 (cnt lo s)) (fun _ i => (hi - intOf i).toNat)
  case atStart => exact ⟨lo, by omega, hle, rfl, by rw [cnt_start]⟩
  case round =>
    obtain ⟨s, hs1, hs2, rfl, rfl⟩ := hrel
    have hcb := cnt_bd lo s hs1
    by_cases hlt : s < hi
    · by_cases hb : allowB s = true
      · have hc : Hid (cnt lo (s + 1) = cnt lo s + 1) := cnt_yes lo s hs1 hb
        go_wp2_with (go_at_call 11; refine (zzbody_any _ _).mono ?_; rintro e w' ⟨rfl, rfl⟩)
        go_round
        case rel => exact ⟨s + 1, by omega, by omega, rfl, by rw [hc.out]⟩
        case measure => simp [intOf]; omega
      · have hb : allowB s = false := by simpa using hb
        have hc : Hid (cnt lo (s + 1) = cnt lo s) := cnt_no lo s hs1 hb
        go_wp2_with (go_at_call 11; refine (zzbody_any _ _).mono ?_; rintro e w' ⟨rfl, rfl⟩)
        go_round
        case rel => exact ⟨s + 1, by omega, by omega, rfl, by rw [hc.out]⟩
        case measure => simp [intOf]; omega
    · have he : s = hi := by omega
      subst he
      go_wp2
      all_goals
        go_ret
        exact ⟨ret_bool (by simp [cnt]; omega), Grown.refl _⟩

theorem walk (a0 : Int) (a1 : Int) (w0 : (Lit.int .i64 a0).wf = true) (w1 : (Lit.int .i64 a1).wf = true) (w : World) :
    Calls Try.prog 6 #[.int .i64 a0, .int .i64 a1] w fun e w' => e = .returned (.bool true) ∧ Grown w w' := by
  have hb0 := bounds_i64 w0
  have hb1 := bounds_i64 w1
  by_cases hle : a1 < a0
  · go_enter Try.func6, Try.ntmps6
    go_wp2
    go_ret
    exact ⟨rfl, Grown.refl _⟩
  · by_cases hd : a1 - a0 ≤ 65536
    · exact walk_in a0 a1 hb0.1 hb1.2 (by omega) hd w
    · have hu : 65536 < IntKind.u64.wrap (IntKind.u64.wrap a1 - IntKind.u64.wrap a0) := by rw [u64_gap a0 a1 (by omega) (by omega)]; omega
      go_enter Try.func6, Try.ntmps6
      go_wp2
      go_ret
      exact ⟨rfl, Grown.refl _⟩

/-! ### THE ROW's STEP: WRITTEN OUT: LEAVE IT -/
set_option maxRecDepth 100000 in
theorem lifted (os : Os) (started : os.Started) (H : Type) (enc : TypeId × Value → H) :
    ReturnsInHanded {} Try.checked os 6 .any (Rows.fnBodyAllowedCountSpec.pre6 enc Try.prog Try.f6 Rows.fnBodyAllowedCountRow.domain false) (Rows.fnBodyAllowedCountSpec.post enc Try.prog Try.f6 false true false false) := by
  refine returnsInHanded_of_change (C := Try.checked) own started (by kernel_rfl) Try.func6
    (ChangeSpec.witness6 (enc := enc) (C := Try.checked) false ⟨#[], #[.int .i64 0, .int .i64 0], []⟩ 8 (by kernel_rfl) (by kernel_rfl) (by kernel_rfl) (by kernel_rfl)) ?_
  intro W base args ds gs before hval0 hW hcnd _
  have hval : ∀ (j : Nat) t v, Try.f6.params[j]? = some t → args[j]? = some v → Value.okWide Try.prog W .any base t v := hval0
  have hW' := hW
  obtain ⟨p, q, hA0, hV, rfl, hfz, hnd⟩ := hW
  have hA : DataW.TrodAll enc Try.prog W 0 (fun _ => true) true Try.f6.params.toList args.toList ds p := hA0
  rw [Try.params6] at hA hval
  obtain ⟨v0, vs0, d0, ds0, p0, q0, hargs, rfl, rfl, h0, r0⟩ := trodAll_cons hA
  obtain ⟨v1, vs1, d1, ds1, p1, q1, rfl, rfl, rfl, h1, r1⟩ := trodAll_cons r0
  obtain ⟨rfl, rfl, rfl⟩ := trodAll_nil r1
  obtain rfl : args = #[v0, v1] := by cases args; simp_all
  obtain ⟨rfl, rfl⟩ := trodVars_none hV
  obtain ⟨a0, rfl, rfl, rfl, w0⟩ := open_int Try.underlying3 (hval 0 3 v0 rfl rfl) h0
  obtain ⟨a1, rfl, rfl, rfl, w1⟩ := open_int Try.underlying3 (hval 1 3 v1 rfl rfl) h1
  clear hA0 hval0
  simp only [List.append_nil] at hW'
  refine (walk a0 a1 w0 w1 W).mono fun e W' ⟨he, hg⟩ => ?_
  subst he
  exact ⟨_, rfl, post_of_same (pa := []) (pv := []) hW' (fun _ _ _ => (trodAll_cons_mk (shut_bool Try.underlying4 _) trodAll_mk0)) (fun sp _ => (trodAll_cons_mk (shut_int Try.underlying3 w0) (trodAll_cons_mk (shut_int Try.underlying3 w1) trodAll_mk0))) (fun _ _ => rfl) rfl
    (hg.frame _) hg.2.1 (ok_one (by kernel_rfl) rfl (okWide_bool_mk Try.underlying4 _))⟩

theorem over : Rows.fnBodyAllowedCountRow.holds Try.pinned (OpenSpec.ofChange Rows.fnBodyAllowedCountSpec) :=
  OpenClaim.holds_of_wide 6 Try.f6 rfl rfl rfl rfl rfl rfl rfl ⟨rfl, rfl, rfl, rfl, rfl⟩ rfl rfl rfl rfl rfl (by kernel_rfl) Try.func6 (by kernel_rfl)
    (of_decide_eq_true (by kernel_rfl)) (by unfold Func.isWrapper; first | (rw [if_pos (by decide +kernel)]; kernel_rfl) | (rw [if_neg (by decide +kernel)]; exact ⟨rfl, rfl⟩))
    (fun os started H enc _ => lifted os started H enc)

/-- ████ THE STATEMENT ████ -/
theorem proved : Rows.FnBodyAllowedCountSaid :=
  over
end Go.Proofs.Qxb6605682a.fnBodyAllowedCount
