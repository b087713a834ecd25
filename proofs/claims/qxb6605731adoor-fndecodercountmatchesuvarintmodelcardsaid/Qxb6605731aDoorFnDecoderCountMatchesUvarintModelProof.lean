/- The proof of 'Rows.FnDecoderCountMatchesUvarintModelCardSaid': the row with its one listed variable, then the tied card. The frame after the guide's worked rows with a listed variable; the walk is ours. -/
import Derived.Test.Qxb6605731aDoorRows
import Derived.Test.Qxb6605731aDoorTie
import Derived.Test.Qxb6605731aDoorCards
import Derived.WalkKit
import Derived.ProofKit
import Derived.OpenShut
import Derived.ChangeOld
import Derived.Below
import Derived.LaidMore
import Derived.Stop.Joined
import Derived.SevenTiedAt
import Derived.Test.Qxb6605731aDoorCount
namespace Go.Proofs.Qxb6605731aDoor.fnDecoderCountMatchesUvarintModel
open Go.ChangeShapes Go.WideShapes Go.ChangeAt Go.RowKit
set_option linter.unusedVariables false

theorem own : ownKnob Tryd.prog.godebug = none := by kernel_rfl
theorem laidOut : laidOutB Tryd.prog = true := by kernel_rfl

/-- The listed variable's name, as the given row lists it. -/
def nm : String := Rows.fnDecoderCountMatchesUvarintModelSpec.vars.headD ""
theorem gErr : Tryd.prog.globalNamed nm = some 0 := by kernel_rfl
theorem tErr : (Tryd.prog.globals[0]?).map (·.type) = some 39 := by kernel_rfl

/-- What the condition gives: the variable's cell holds an error that is not nil. -/
theorem of_laid {W : World} (h : laidMetH Tryd.prog Rows.fnDecoderCountMatchesUvarintModelRow.laid W) : ∃ u x, W.var? Tryd.prog nm = some #[.iface u x] ∧ W.cell? ⟨0, 0, none⟩ = some (.iface u x) := by
  rw [MakeChecks.laidMetH_plain _ _ _ (by kernel_rfl)] at h
  obtain ⟨ps, ⟨g0, t0, cs0, f0, p0, q0, hg0, ht0, hv0, hd0, _, _⟩, _, _⟩ := h
  obtain rfl := Option.some.inj (gErr.symm.trans hg0)
  obtain rfl := Option.some.inj (tErr.symm.trans ht0)
  obtain ⟨_, u, v, hcs, _, _⟩ := iface_of_trod Tryd.underlying39 hd0
  obtain rfl := Array.eq_one_of_toList hcs
  exact ⟨u, v, hv0, by simpa using World.var?_cell hg0 hv0 0⟩

/-- The heap that the door's own run leaves meets the condition. -/
theorem door_met (os : Os) (args : Array Value) : laidMetH Tryd.prog Rows.fnDecoderCountMatchesUvarintModelRow.laid ((World.doorLaid Tryd.prog 400 os).forCall (fun _ _ => 0) ⟨#[], args, []⟩).memory :=
  laidMetH_of_parts3 (fuel := 8) (laidMet_of_run' 8 (by kernel_rfl) (by kernel_rfl)) (by kernel_rfl) (by kernel_rfl)

theorem vars_read {H : Type} (enc : TypeId × Value → H) {W : World} {x : Value} (h : W.var? Tryd.prog nm = some #[x]) (hi : IsIface x) (sp : Nat → Bool) :
    DataW.TrodVars enc Tryd.prog W sp [nm] [tok enc x] [.cell 0 0] :=
  ⟨0, 39, #[x], 1, [], [], gErr, tErr, h, trod_held Tryd.underlying39 hi 0, rfl, rfl⟩

/-- WHAT THE WALK IS TOLD OF A SLICE OF INTEGERS THAT CAME IN. -/
def IsRow (k : IntKind) (w : World) (a : Option Addr) (len cap : Nat) (zs : List Int) : Prop :=
  (a = none ∧ len = 0 ∧ cap = 0 ∧ zs = []) ∨
  ∃ x, a = some x ∧ len ≤ cap ∧ cap ≤ maxLen ∧ zs.length = cap ∧ (∀ i, i < zs.length → w.cell? (x.add i) = some (.int k (zs.getD i 0))) ∧ ∀ n ∈ zs, (Lit.int k n).wf = true

theorem row_came {w : World} {a : Option Addr} {len cap : Nat} {z : List Int} (h : IsRow .u8 w a len cap z) : ∃ l : List UInt8, len = l.length ∧ Came w a cap l := by
  rcases h with ⟨rfl, rfl, rfl, rfl⟩ | ⟨x, rfl, hl, hm, hz, hc, hw⟩
  · exact ⟨[], rfl, .inl ⟨rfl, rfl, rfl⟩⟩
  · refine ⟨(z.take len).map (fun n => n.toNat.toUInt8), by simp; omega, .inr ⟨x, rfl, fun j hj => ?_⟩⟩
    have hj' : j < len := by simp at hj; omega
    have hjz : j < z.length := by omega
    rw [hc j hjz]
    have hb := bounds_u8 (hw z[j] (List.getElem_mem hjz))
    have e1 : z.getD j 0 = z[j] := by simp [List.getD, hjz]
    have e2 : ((z.take len).map (fun n => n.toNat.toUInt8)).getD j 0 = z[j].toNat.toUInt8 := by
      simp [List.getD, List.getElem?_take_of_lt hj', hjz]
    rw [e1, e2, Lib.toUInt8_toNat (by omega)]
    congr 2; omega

theorem walk (a0 : Option Addr) (len0 cap0 : Nat) (z0 : List Int) (b : Bool) (u : TypeId) (x : Value) (w : World) (w0 : IsRow .u8 w a0 len0 cap0 z0) (hg : w.cell? ⟨0, 0, none⟩ = some (.iface u x)) :
    Calls Tryd.prog 4 #[.slice a0 len0 cap0, .bool b] w fun e w' => e = .returned (.bool true) ∧ Below w.heap.size w w' := by
  obtain ⟨l0, rfl, c0⟩ := row_came w0
  by_cases h : l0.length ≤ 1048576
  · exact count_in a0 cap0 l0 b u x w c0 h hg
  · exact count_out a0 _ cap0 b (by omega) w

set_option maxRecDepth 100000 in
theorem lifted (os : Os) (started : os.Started) (H : Type) (enc : TypeId × Value → H) :
    ReturnsInHanded {} Tryd.checked os 4 .any (fun w args => (Rows.fnDecoderCountMatchesUvarintModelSpec.pre enc Tryd.prog Tryd.f4 [] false w args ∧ laidMetH Tryd.prog Rows.fnDecoderCountMatchesUvarintModelRow.laid w) ∧ sizedMet enc Tryd.prog Tryd.f4 (OpenSpec.ofChange Rows.fnDecoderCountMatchesUvarintModelSpec) false w args)
      (Rows.fnDecoderCountMatchesUvarintModelSpec.post enc Tryd.prog Tryd.f4 false true false false) := by
  refine returnsInHanded_of_change_and (C := Tryd.checked) (X := fun w _ => laidMetH Tryd.prog Rows.fnDecoderCountMatchesUvarintModelRow.laid w) (fun _ _ _ hh h => h.of_heap hh) own started (by kernel_rfl) Tryd.func4
    (ChangeSpec.witness_shaped (enc := enc) (C := Tryd.checked) (os := os) (X := fun w _ => laidMetH Tryd.prog Rows.fnDecoderCountMatchesUvarintModelRow.laid w) false (World.doorLaid Tryd.prog 400 os) #[.slice none 0 0, .bool false] 8 rfl (World.shaped_of_RefB (by kernel_rfl) (by kernel_rfl)) (by kernel_rfl) (by kernel_rfl) (by kernel_rfl) (door_met os _)) ?_
  intro W base args ds gs before hval0 hW _ _ hL _
  have hval : ∀ (j : Nat) t v, Tryd.f4.params[j]? = some t → args[j]? = some v → Value.okWide Tryd.prog W .any base t v := hval0
  have hW' := hW
  obtain ⟨p, q, hA0, hV0, rfl, hfz, hnd⟩ := hW
  have hA : DataW.TrodAll enc Tryd.prog W 0 (fun _ => true) true Tryd.f4.params.toList args.toList ds p := hA0
  have hV : DataW.TrodVars enc Tryd.prog W (fun _ => true) [nm] gs q := hV0
  rw [Tryd.params4] at hA hval
  obtain ⟨v0, vs0, d0, ds0, p0, q0, hargs, rfl, rfl, h0, r0⟩ := trodAll_cons hA
  obtain ⟨v1, vs1, d1, ds1, p1, q1, rfl, rfl, rfl, h1, r1⟩ := trodAll_cons r0
  obtain ⟨rfl, rfl, rfl⟩ := trodAll_nil r1
  obtain rfl : args = #[v0, v1] := by cases args; simp_all
  obtain ⟨u, x, hvar, hg⟩ := of_laid hL
  obtain ⟨rfl, rfl⟩ := hV.unique (vars_read enc hvar trivial _)
  obtain ⟨a0, len0, cap0, rfl⟩ := okWide_slice Tryd.underlying24 (hval 0 24 v0 rfl rfl)
  have k0 := h0
  have lt0 : ∀ x ∈ p0, x.block < W.heap.size := by obtain ⟨m, hm⟩ := k0; exact DataW.trod_lt m _ _ _ hm
  obtain ⟨z0, w0⟩ : ∃ zs, IsRow .u8 W a0 len0 cap0 zs := by
    obtain ⟨fuel, hf⟩ := h0
    rcases open_ints Tryd.underlying24 Tryd.underlying5 (by kernel_rfl) hf with ⟨hcs, _⟩ | ⟨x, l, c, zs, hcs, _, hl, hm, hz, _, hcell, hwz⟩
    · simp [Value.cells] at hcs
      obtain ⟨rfl, rfl, rfl⟩ := hcs
      exact ⟨[], .inl ⟨rfl, rfl, rfl, rfl⟩⟩
    · simp [Value.cells] at hcs
      obtain ⟨rfl, rfl, rfl⟩ := hcs
      exact ⟨zs, .inr ⟨_, rfl, hl, hm, by simpa using hz, hcell, hwz⟩⟩
  obtain ⟨b, rfl, rfl, rfl⟩ := open_bool Tryd.underlying4 (hval 1 4 v1 rfl rfl) h1
  clear hA0 hV0 hval0
  refine (walk a0 len0 cap0 z0 b u x W w0 hg).mono fun e W' ⟨he, bel⟩ => ?_
  subst he
  have hvar' : W'.var? Tryd.prog nm = some #[.iface u x] := var?_below bel gErr (World.block_lt_of_cell? W _ hg) hvar
  exact ⟨_, rfl, _, _, _, [], p0 ++ ([] ++ []), [.cell 0 0], hW', trodAll_mk1 (shut_bool Tryd.underlying4 _), (trodAll_cons_mk (Below.trod laidOut (by kernel_rfl) (of_decide_eq_true (by kernel_rfl)) k0 bel lt0) (trodAll_cons_mk (shut_bool Tryd.underlying4 b) trodAll_mk0)), vars_read enc hvar' trivial _, bel.frame _, fun h => by cases h⟩

theorem over : Rows.FnDecoderCountMatchesUvarintModelSaid :=
  OpenClaim.holds_of_wide 4 Tryd.f4 rfl rfl rfl rfl rfl rfl rfl ⟨rfl, rfl, rfl, rfl, rfl⟩ rfl rfl rfl rfl rfl (by kernel_rfl) Tryd.func4 (by kernel_rfl)
    (of_decide_eq_true (by kernel_rfl)) (by unfold Func.isWrapper; first | (rw [if_pos (by decide +kernel)]; kernel_rfl) | (rw [if_neg (by decide +kernel)]; exact ⟨rfl, rfl⟩))
    (fun os started H enc _ => lifted os started H enc)

/-- The tied card: what the row lists is tied to the program's text by the given tie. -/
theorem proved : Rows.FnDecoderCountMatchesUvarintModelCardSaid :=
  Claim7.holds_tied_plain_at .later [] [.sentinel] true (true, "f7b6643be77d9ec28d2d2bb378a3467f619105c5f079008d5a8b23a310369dcb") false
    over (fun _ h => by cases h) (by kernel_rfl) (fun _ h => by cases h) fnDecoderCountMatchesUvarintModel_row_tie rfl ⟨rfl, rfl⟩ (by kernel_rfl) rfl
    (fun f fn hf hfn => by
      obtain rfl : f = 4 := Option.some.inj ((show Tryd.prog.funcNamed Rows.fnDecoderCountMatchesUvarintModelRow.func = some 4 by kernel_rfl).symm.trans hf) |>.symm
      obtain rfl : fn = Tryd.f4 := (Option.some.inj (Tryd.func4.symm.trans hfn)).symm
      exact ⟨by kernel_rfl, fun j t ht => by
        rw [Tryd.params4] at ht
        have h3 : t = 24 ∨ t = 4 := by
          rcases j with _ | _ | j
          · left; simpa using ht.symm
          · right; simpa using ht.symm
          · simp at ht
        rcases h3 with rfl | rfl
        · exact (show Tryd.prog.wantsStandIn 24 = false by kernel_rfl)
        · exact (show Tryd.prog.wantsStandIn 4 = false by kernel_rfl)⟩)
    (by kernel_rfl)
end Go.Proofs.Qxb6605731aDoor.fnDecoderCountMatchesUvarintModel
