/- The proof of 'Rows.FnFieldSizeCountsSevenBitGroupsSaid': the frame after the seat's shell; the walk is ours. -/
import Derived.Test.Qxb6605731aRows
import Derived.WalkKit
import Derived.ProofKit
import Derived.OpenShut
import Derived.ShutString
import Derived.Test.Qxb6605731aField
namespace Go.Proofs.Qxb6605731a.fnFieldSizeCountsSevenBitGroups
open Go.ChangeShapes Go.WideShapes Go.ChangeAt Go.RowKit
open Go.ChangeMaps (open_string shut_string)
set_option linter.unusedVariables false      -- a walk need not use every 'w<i>' (that an integer argument fits its kind)

theorem own : ownKnob Try.prog.godebug = none := by kernel_rfl

open Plain

set_option maxRecDepth 100000 in
set_option maxHeartbeats 1000000 in
theorem walk (a0 : Int) (w0 : (Lit.int .i64 a0).wf = true) (w : World) :
    Calls Try.prog 3 #[.int .i64 a0] w fun e w' => e = .returned (.bool true) ∧ Grown w w' := by
  obtain ⟨x, hx, hlt⟩ := u64_nat a0
  have HX : Hid (IntKind.u64.wrap a0 = (x : Int)) := hx
  have HLT : Hid (x < 18446744073709551616) := hlt
  have hg10 := grp_le hlt
  clear hlt
  go_enter Try.func3, Try.ntmps3
  go_wp2
  clear hx
  go_loop [3, 4] (fun g m => ∃ (y k : Nat), m = .int .u64 y ∧ g = .int .i64 k ∧ y ≤ x ∧ k + grp y = grp x + 1 ∧ 1 ≤ k) (fun _ m => (intOf m).toNat)
  case atStart => exact ⟨x, 1, rfl, rfl, Nat.le_refl _, by omega, by omega⟩
  case round =>
    obtain ⟨y, k, rfl, rfl, hyx, hk, hk1⟩ := hrel
    have hyp := grp_pos y
    by_cases h128 : 128 ≤ y
    · have HG : Hid (grp y = 1 + grp (y / 128)) := grp_big h128
      have HK : Hid (k + grp y = grp x + 1) := hk
      have hk2 : k ≤ 10 := by omega
      clear hk
      go_wp2
      go_round
      case rel => exact ⟨y / 128, k + 1, by go_num, by go_num, by omega, by have := HG.out; have := HK.out; omega, by omega⟩
      case measure => simp [intOf]; omega
    · have HG : Hid (grp y = 1) := grp_small (by omega)
      have HK : Hid (k = grp x) := by have h1 := HG.out; show _ = _; omega
      clear hk hyp
      go_wp2_with (go_at_call 6; refine (zzfs_any a0 x HX.out HLT _).mono ?_; rintro e w1 ⟨rfl, rfl⟩)
      go_ret
      exact ⟨ret_bool (by rw [HK.out]; simp), Grown.refl _⟩

/-! ### THE ROW's STEP: WRITTEN OUT: LEAVE IT -/
set_option maxRecDepth 100000 in
theorem lifted (os : Os) (started : os.Started) (H : Type) (enc : TypeId × Value → H) :
    ReturnsInHanded {} Try.checked os 3 .any (Rows.fnFieldSizeCountsSevenBitGroupsSpec.pre6 enc Try.prog Try.f3 Rows.fnFieldSizeCountsSevenBitGroupsRow.domain false) (Rows.fnFieldSizeCountsSevenBitGroupsSpec.post enc Try.prog Try.f3 false true false false) := by
  refine returnsInHanded_of_change (C := Try.checked) own started (by kernel_rfl) Try.func3
    (ChangeSpec.witness6 (enc := enc) (C := Try.checked) false ⟨#[], #[.int .i64 0], []⟩ 8 (by kernel_rfl) (by kernel_rfl) (by kernel_rfl) (by kernel_rfl)) ?_
  intro W base args ds gs before hval0 hW hcnd _
  have hval : ∀ (j : Nat) t v, Try.f3.params[j]? = some t → args[j]? = some v → Value.okWide Try.prog W .any base t v := hval0
  have hW' := hW
  obtain ⟨p, q, hA0, hV, rfl, hfz, hnd⟩ := hW
  have hA : DataW.TrodAll enc Try.prog W 0 (fun _ => true) true Try.f3.params.toList args.toList ds p := hA0
  rw [Try.params3] at hA hval
  obtain ⟨v0, vs0, d0, ds0, p0, q0, hargs, rfl, rfl, h0, r0⟩ := trodAll_cons hA
  obtain ⟨rfl, rfl, rfl⟩ := trodAll_nil r0
  obtain rfl : args = #[v0] := by cases args; simp_all
  obtain ⟨rfl, rfl⟩ := trodVars_none hV
  obtain ⟨a0, rfl, rfl, rfl, w0⟩ := open_int Try.underlying3 (hval 0 3 v0 rfl rfl) h0
  clear hA0 hval0
  simp only [List.append_nil] at hW'
  refine (walk a0 w0 W).mono fun e W' ⟨he, hg⟩ => ?_
  subst he
  exact ⟨_, rfl, post_of_same (pa := []) (pv := []) hW' (fun _ _ _ => (trodAll_cons_mk (shut_bool Try.underlying4 _) trodAll_mk0)) (fun sp _ => (trodAll_cons_mk (shut_int Try.underlying3 w0) trodAll_mk0)) (fun _ _ => rfl) rfl
    (hg.frame _) hg.2.1 (ok_one (by kernel_rfl) rfl (okWide_bool_mk Try.underlying4 _))⟩

theorem over : Rows.fnFieldSizeCountsSevenBitGroupsRow.holds Try.pinned (OpenSpec.ofChange Rows.fnFieldSizeCountsSevenBitGroupsSpec) :=
  OpenClaim.holds_of_wide 3 Try.f3 rfl rfl rfl rfl rfl rfl rfl ⟨rfl, rfl, rfl, rfl, rfl⟩ rfl rfl rfl rfl rfl (by kernel_rfl) Try.func3 (by kernel_rfl)
    (of_decide_eq_true (by kernel_rfl)) (by unfold Func.isWrapper; first | (rw [if_pos (by decide +kernel)]; kernel_rfl) | (rw [if_neg (by decide +kernel)]; exact ⟨rfl, rfl⟩))
    (fun os started H enc _ => lifted os started H enc)

/-- ████ THE STATEMENT ████ -/
theorem proved : Rows.FnFieldSizeCountsSevenBitGroupsSaid :=
  over
end Go.Proofs.Qxb6605731a.fnFieldSizeCountsSevenBitGroups
