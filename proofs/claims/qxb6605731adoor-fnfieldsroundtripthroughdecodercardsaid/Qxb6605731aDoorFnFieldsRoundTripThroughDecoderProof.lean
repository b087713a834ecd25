/- The proof of 'Rows.FnFieldsRoundTripThroughDecoderCardSaid': the row with its one listed variable, then the tied card. The frame after the guide's worked rows with a listed variable; the walk is ours. -/
import Derived.Test.Qxb6605731aDoorRows
import Derived.Test.Qxb6605731aDoorTie
import Derived.Test.Qxb6605731aDoorCards
import Derived.WalkKit
import Derived.ProofKit
import Derived.OpenShut
import Derived.ChangeOld
import Derived.Below
import Derived.LaidMore
import Derived.Stop.Joined
import Derived.SevenTiedAt
import Derived.Deep.Matrix
import Derived.Test.Qxb6605731aDoorRound
namespace Go.Proofs.Qxb6605731aDoor.fnFieldsRoundTripThroughDecoder
open Go.ChangeShapes Go.WideShapes Go.ChangeAt Go.RowKit
set_option linter.unusedVariables false

theorem own : ownKnob Tryd.prog.godebug = none := by kernel_rfl
theorem laidOut : laidOutB Tryd.prog = true := by kernel_rfl

/-- The listed variable's name, as the given row lists it. -/
def nm : String := Rows.fnFieldsRoundTripThroughDecoderSpec.vars.headD ""
theorem gErr : Tryd.prog.globalNamed nm = some 0 := by kernel_rfl
theorem tErr : (Tryd.prog.globals[0]?).map (·.type) = some 39 := by kernel_rfl

/-- What the condition gives: the variable's cell holds an error that is not nil. -/
theorem of_laid {W : World} (h : laidMetH Tryd.prog Rows.fnFieldsRoundTripThroughDecoderRow.laid W) : ∃ u x, W.var? Tryd.prog nm = some #[.iface u x] ∧ W.cell? ⟨0, 0, none⟩ = some (.iface u x) := by
  rw [MakeChecks.laidMetH_plain _ _ _ (by kernel_rfl)] at h
  obtain ⟨ps, ⟨g0, t0, cs0, f0, p0, q0, hg0, ht0, hv0, hd0, _, _⟩, _, _⟩ := h
  obtain rfl := Option.some.inj (gErr.symm.trans hg0)
  obtain rfl := Option.some.inj (tErr.symm.trans ht0)
  obtain ⟨_, u, v, hcs, _, _⟩ := iface_of_trod Tryd.underlying39 hd0
  obtain rfl := Array.eq_one_of_toList hcs
  exact ⟨u, v, hv0, by simpa using World.var?_cell hg0 hv0 0⟩

/-- The heap that the door's own run leaves meets the condition. -/
theorem door_met (os : Os) (args : Array Value) : laidMetH Tryd.prog Rows.fnFieldsRoundTripThroughDecoderRow.laid ((World.doorLaid Tryd.prog 400 os).forCall (fun _ _ => 0) ⟨#[], args, []⟩).memory :=
  laidMetH_of_parts3 (fuel := 8) (laidMet_of_run' 8 (by kernel_rfl) (by kernel_rfl)) (by kernel_rfl) (by kernel_rfl)

theorem vars_read {H : Type} (enc : TypeId × Value → H) {W : World} {x : Value} (h : W.var? Tryd.prog nm = some #[x]) (hi : IsIface x) (sp : Nat → Bool) :
    DataW.TrodVars enc Tryd.prog W sp [nm] [tok enc x] [.cell 0 0] :=
  ⟨0, 39, #[x], 1, [], [], gErr, tErr, h, trod_held Tryd.underlying39 hi 0, rfl, rfl⟩

/-- What the walk is told of the fields that came in: nil, or a slice of slices of bytes. -/
def IsFlds (w : World) (a : Option Addr) (len cap : Nat) (LL : List (List UInt8)) : Prop :=
  (a = none ∧ len = 0 ∧ cap = 0) ∨ ∃ x, a = some x ∧ len = LL.length ∧ len ≤ maxLen ∧ Flds w x LL

theorem byte_of {z : Int} (h : (Lit.int .u8 z).wf = true) : ((z.toNat.toUInt8).toNat : Int) = z := by
  have hb := bounds_u8 h
  rw [Lib.toUInt8_toNat (by omega)]; omega

theorem rows_flds {W : World} {x : Addr} {len cap : Nat} {A : Nat → Option Addr} {L C : Nat → Nat} {Z : Nat → List Int} (hl : len ≤ cap)
    (h : ∀ r, r < cap → W.cell? (x.add r) = some (.slice (A r) (L r) (C r)) ∧ L r ≤ C r ∧ C r ≤ maxLen ∧ (Z r).length = C r ∧ (∀ n ∈ Z r, (Lit.int .u8 n).wf = true) ∧ (A r = none → C r = 0) ∧
        ∀ a', A r = some a' → 0 ≤ a'.block ∧ ∀ c, c < C r → W.cell? (a'.add c) = some (.int .u8 ((Z r).getD c 0))) :
    ∃ LL : List (List UInt8), len = LL.length ∧ Flds W x LL := by
  refine ⟨(List.range len).map (fun r => ((Z r).take (L r)).map (fun n => n.toNat.toUInt8)), by simp, fun i hi => ?_⟩
  have hi' : i < len := by simpa using hi
  obtain ⟨h1, h2, h3, h4, h5, h6, h7⟩ := h i (by omega)
  have e : ((List.range len).map (fun r => ((Z r).take (L r)).map (fun n => n.toNat.toUInt8))).getD i [] = ((Z i).take (L i)).map (fun n => n.toNat.toUInt8) := by
    simp [List.getD, hi']
  rw [e]
  have el : (((Z i).take (L i)).map (fun n => n.toNat.toUInt8)).length = L i := by simp; omega
  rw [el]
  refine ⟨A i, C i, h1, ?_, by omega⟩
  cases hA : A i with
  | none =>
    have hc := h6 hA
    exact .inl ⟨rfl, List.eq_nil_of_length_eq_zero (by rw [el]; omega), hc⟩
  | some a' =>
    refine .inr ⟨a', rfl, fun j hj => ?_⟩
    rw [el] at hj
    have hjz : j < (Z i).length := by omega
    rw [(h7 a' hA).2 j (by omega)]
    have e1 : (Z i).getD j 0 = (Z i)[j] := by simp [List.getD, hjz]
    have e2 : (((Z i).take (L i)).map (fun n => n.toNat.toUInt8)).getD j 0 = (Z i)[j].toNat.toUInt8 := by
      simp [List.getD, List.getElem?_take_of_lt hj, hjz]
    rw [e1, e2, byte_of (h5 _ (List.getElem_mem hjz))]

theorem walk (a0 : Option Addr) (len0 cap0 : Nat) (LL : List (List UInt8)) (w : World) (w0 : IsFlds w a0 len0 cap0 LL) :
    Calls Tryd.prog 3 #[.slice a0 len0 cap0] w fun e w' => e = .returned (.bool true) ∧ Below w.heap.size w w' := by
  rcases w0 with ⟨rfl, rfl, rfl⟩ | ⟨x, rfl, rfl, hl, hf⟩
  · exact rt_nil w
  · exact rt_some x cap0 LL w hl hf

set_option maxRecDepth 100000 in
theorem lifted (os : Os) (started : os.Started) (H : Type) (enc : TypeId × Value → H) :
    ReturnsInHanded {} Tryd.checked os 3 .any (fun w args => (Rows.fnFieldsRoundTripThroughDecoderSpec.pre enc Tryd.prog Tryd.f3 [] false w args ∧ laidMetH Tryd.prog Rows.fnFieldsRoundTripThroughDecoderRow.laid w) ∧ sizedMet enc Tryd.prog Tryd.f3 (OpenSpec.ofChange Rows.fnFieldsRoundTripThroughDecoderSpec) false w args)
      (Rows.fnFieldsRoundTripThroughDecoderSpec.post enc Tryd.prog Tryd.f3 false true false false) := by
  refine returnsInHanded_of_change_and (C := Tryd.checked) (X := fun w _ => laidMetH Tryd.prog Rows.fnFieldsRoundTripThroughDecoderRow.laid w) (fun _ _ _ hh h => h.of_heap hh) own started (by kernel_rfl) Tryd.func3
    (ChangeSpec.witness_shaped (enc := enc) (C := Tryd.checked) (os := os) (X := fun w _ => laidMetH Tryd.prog Rows.fnFieldsRoundTripThroughDecoderRow.laid w) false (World.doorLaid Tryd.prog 400 os) #[.slice none 0 0] 8 rfl (World.shaped_of_RefB (by kernel_rfl) (by kernel_rfl)) (by kernel_rfl) (by kernel_rfl) (by kernel_rfl) (door_met os _)) ?_
  intro W base args ds gs before hval0 hW _ _ hL _
  have hval : ∀ (j : Nat) t v, Tryd.f3.params[j]? = some t → args[j]? = some v → Value.okWide Tryd.prog W .any base t v := hval0
  have hW' := hW
  obtain ⟨p, q, hA0, hV0, rfl, hfz, hnd⟩ := hW
  have hA : DataW.TrodAll enc Tryd.prog W 0 (fun _ => true) true Tryd.f3.params.toList args.toList ds p := hA0
  have hV : DataW.TrodVars enc Tryd.prog W (fun _ => true) [nm] gs q := hV0
  rw [Tryd.params3] at hA hval
  obtain ⟨v0, vs0, d0, ds0, p0, q0, hargs, rfl, rfl, h0, r0⟩ := trodAll_cons hA
  obtain ⟨rfl, rfl, rfl⟩ := trodAll_nil r0
  obtain rfl : args = #[v0] := by cases args; simp_all
  obtain ⟨u, x, hvar, hg⟩ := of_laid hL
  obtain ⟨rfl, rfl⟩ := hV.unique (vars_read enc hvar trivial _)
  obtain ⟨a0, len0, cap0, rfl⟩ := okWide_slice Tryd.underlying22 (hval 0 22 v0 rfl rfl)
  have k0 := h0
  have lt0 : ∀ x ∈ p0, x.block < W.heap.size := by obtain ⟨m, hm⟩ := k0; exact DataW.trod_lt m _ _ _ hm
  obtain ⟨LL, w0⟩ : ∃ LL, IsFlds W a0 len0 cap0 LL := by
    obtain ⟨fuel, hf⟩ := h0
    rcases Go.Deep.open_int_rows Tryd.underlying22 Tryd.underlying24 Tryd.underlying5 (by kernel_rfl) (by kernel_rfl) hf with ⟨hcs, _⟩ | ⟨x, l, c, A, L, C, Z, hcs, _, hl, hm, _, hrow⟩
    · simp [Value.cells] at hcs
      obtain ⟨rfl, rfl, rfl⟩ := hcs
      exact ⟨[], .inl ⟨rfl, rfl, rfl⟩⟩
    · simp [Value.cells] at hcs
      obtain ⟨rfl, rfl, rfl⟩ := hcs
      obtain ⟨LL, h1, h2⟩ := rows_flds hl hrow
      exact ⟨LL, .inr ⟨_, rfl, h1, Nat.le_trans hl hm, h2⟩⟩
  clear hA0 hV0 hval0
  refine (walk a0 len0 cap0 LL W w0).mono fun e W' ⟨he, bel⟩ => ?_
  subst he
  have hvar' : W'.var? Tryd.prog nm = some #[.iface u x] := var?_below bel gErr (World.block_lt_of_cell? W _ hg) hvar
  exact ⟨_, rfl, _, _, _, [], p0 ++ [], [.cell 0 0], hW', trodAll_mk1 (shut_bool Tryd.underlying4 _), (trodAll_cons_mk (Below.trod laidOut (by kernel_rfl) (of_decide_eq_true (by kernel_rfl)) k0 bel lt0) trodAll_mk0), vars_read enc hvar' trivial _, bel.frame _, fun h => by cases h⟩

theorem over : Rows.FnFieldsRoundTripThroughDecoderSaid :=
  OpenClaim.holds_of_wide 3 Tryd.f3 rfl rfl rfl rfl rfl rfl rfl ⟨rfl, rfl, rfl, rfl, rfl⟩ rfl rfl rfl rfl rfl (by kernel_rfl) Tryd.func3 (by kernel_rfl)
    (of_decide_eq_true (by kernel_rfl)) (by unfold Func.isWrapper; first | (rw [if_pos (by decide +kernel)]; kernel_rfl) | (rw [if_neg (by decide +kernel)]; exact ⟨rfl, rfl⟩))
    (fun os started H enc _ => lifted os started H enc)

/-- The tied card: what the row lists is tied to the program's text by the given tie. -/
theorem proved : Rows.FnFieldsRoundTripThroughDecoderCardSaid :=
  Claim7.holds_tied_plain_at .later [] [.sentinel] true (true, "f7b6643be77d9ec28d2d2bb378a3467f619105c5f079008d5a8b23a310369dcb") false
    over (fun _ h => by cases h) (by kernel_rfl) (fun _ h => by cases h) fnFieldsRoundTripThroughDecoder_row_tie rfl ⟨rfl, rfl⟩ (by kernel_rfl) rfl
    (fun f fn hf hfn => by
      obtain rfl : f = 3 := Option.some.inj ((show Tryd.prog.funcNamed Rows.fnFieldsRoundTripThroughDecoderRow.func = some 3 by kernel_rfl).symm.trans hf) |>.symm
      obtain rfl : fn = Tryd.f3 := (Option.some.inj (Tryd.func3.symm.trans hfn)).symm
      exact ⟨by kernel_rfl, fun j t ht => by
        rw [Tryd.params3] at ht
        have h3 : t = 22 := by
          rcases j with _ | j
          · simpa using ht.symm
          · simp at ht
        subst h3
        exact (show Tryd.prog.wantsStandIn 22 = false by kernel_rfl)⟩)
    (by kernel_rfl)
end Go.Proofs.Qxb6605731aDoor.fnFieldsRoundTripThroughDecoder
