/-
  NARROWER THAN 'FOR EVERY INPUT', by the rows' own cells (each row's printed sentence says how): FnFieldsRoundTripThroughDecoder: ifaces, laid · FnDecoderCountMatchesUvarintModel: ifaces, laid.
  DERIVED. THE GIVEN ROWS OF THIS SEAT. 2 by the template 'for every input the law returns true; each argument reads behind the call as it read before'; 0 by the template 'total and deterministic' (their statements: Qxb6605731aDoorTotals.lean).
  GIVEN WITH THE SEED: the statements are not yours to turn. If you find one false, say at which input.
  Laid BY PROGRAM, IN A SANDBOX (cutbox-rows.mjs): the forced cells as the released guide's own fill.sh prints them over the translation b1819ade719c98ea… (all of the seat's roots in one cut). By AI agents, Wed Nov 11 2026. No macro, syntax, notation, axiom, sorry.
-/
import Derived.Test.Qxb6605731aDoorChecked
import GoSem.Claim
import GoSem.ClaimJoined
import GoSem.ClaimMapViews
import Derived.JoinedTies
import Derived.KernelRfl
namespace Go.Proofs.Qxb6605731aDoor
/- THE CELL 'sum', in the pinned program and in every row, IS THE sha256 OF THE DUMP (.gsa) THAT Qxb6605731aDoorProg.lean LOADS. Nothing in Lean hashes anything: it is a label: what it is worth is what the hold of that sum in a sandbox is worth. -/
noncomputable def Tryd.pinned : Pinned := { name := "qxb6605731adoor", sum := "b1819ade719c98ea4ea8653f2c0ce1a0a8fe4a6877cac8d3f5a8aeffd8626e7e", checked := Tryd.checked }
namespace Rows
def none {H : Type} : Left H := { results := [], args := [] }

/- WHAT THE LISTED PACKAGE-LEVEL VARIABLES READ AS WHEN THE CALL BEGINS. Each datum BY PROGRAM (the guide's laid-datum.mjs) off the statement by which the dump's own 'gosem.cut.vars' lays the variable. In a bare row this is a premise. The card (Qxb6605731aDoorCards.lean) ties it to the program's text. -/
def laid_example_com_post_once_post_once_internal_respcodec_ErrCorrupt {H : Type} : DataW H := .iface "*errors.errorString" (.ptr (.agg [.lit (.string [116, 104, 101, 32, 114, 101, 99, 111, 114, 100, 101, 100, 32, 114, 101, 115, 112, 111, 110, 115, 101, 32, 105, 115, 32, 99, 111, 114, 114, 117, 112, 116])]))

/-- 'zzlaws_internal_respcodec_b1.FnFieldsRoundTripThroughDecoder': WHATEVER THE INPUT: true; the input reads as it did. -/
def fnFieldsRoundTripThroughDecoderSpec : ChangeSpec := { name := "fnFieldsRoundTripThroughDecoder", vars := ["example.com/post-once/post-once/internal/respcodec.ErrCorrupt"], fn := fun _ => fun
  | [d, g1] => { results := [.lit (.bool true)], args := [d], vars := [g1] }
  | _ => none }
def fnFieldsRoundTripThroughDecoderRow : OpenClaim := { program := "qxb6605731adoor", sum := "b1819ade719c98ea4ea8653f2c0ce1a0a8fe4a6877cac8d3f5a8aeffd8626e7e", func := "example.com/post-once/post-once/zzlaws_internal_respcodec_b1.FnFieldsRoundTripThroughDecoder", spec := "fnFieldsRoundTripThroughDecoder", named := ["example.com/post-once/post-once/internal/respcodec.ErrCorrupt"], ifaces := true, apart := false, laid := [("example.com/post-once/post-once/internal/respcodec.ErrCorrupt", laid_example_com_post_once_post_once_internal_respcodec_ErrCorrupt)] }
def FnFieldsRoundTripThroughDecoderSaid : Prop := fnFieldsRoundTripThroughDecoderRow.holds Tryd.pinned (OpenSpec.ofChange fnFieldsRoundTripThroughDecoderSpec)

/-- ITS FALSE NEIGHBOUR: 'it returns false'. Refute it at one input. -/
def fnFieldsRoundTripThroughDecoderWrong : ChangeSpec := { name := "fnFieldsRoundTripThroughDecoder", vars := ["example.com/post-once/post-once/internal/respcodec.ErrCorrupt"], fn := fun _ => fun
  | [d, g1] => { results := [.lit (.bool false)], args := [d], vars := [g1] }
  | _ => none }
def FnFieldsRoundTripThroughDecoderWrongFalsely : Prop := fnFieldsRoundTripThroughDecoderRow.holds Tryd.pinned (OpenSpec.ofChange fnFieldsRoundTripThroughDecoderWrong)

/-- 'zzlaws_internal_respcodec_b1.FnDecoderCountMatchesUvarintModel': WHATEVER THE INPUT: true; the input reads as it did. -/
def fnDecoderCountMatchesUvarintModelSpec : ChangeSpec := { name := "fnDecoderCountMatchesUvarintModel", vars := ["example.com/post-once/post-once/internal/respcodec.ErrCorrupt"], fn := fun _ => fun
  | [d1, d2, g1] => { results := [.lit (.bool true)], args := [d1, d2], vars := [g1] }
  | _ => none }
def fnDecoderCountMatchesUvarintModelRow : OpenClaim := { program := "qxb6605731adoor", sum := "b1819ade719c98ea4ea8653f2c0ce1a0a8fe4a6877cac8d3f5a8aeffd8626e7e", func := "example.com/post-once/post-once/zzlaws_internal_respcodec_b1.FnDecoderCountMatchesUvarintModel", spec := "fnDecoderCountMatchesUvarintModel", named := ["example.com/post-once/post-once/internal/respcodec.ErrCorrupt"], ifaces := true, apart := false, laid := [("example.com/post-once/post-once/internal/respcodec.ErrCorrupt", laid_example_com_post_once_post_once_internal_respcodec_ErrCorrupt)] }
def FnDecoderCountMatchesUvarintModelSaid : Prop := fnDecoderCountMatchesUvarintModelRow.holds Tryd.pinned (OpenSpec.ofChange fnDecoderCountMatchesUvarintModelSpec)

/-- ITS FALSE NEIGHBOUR: 'it returns false'. Refute it at one input. -/
def fnDecoderCountMatchesUvarintModelWrong : ChangeSpec := { name := "fnDecoderCountMatchesUvarintModel", vars := ["example.com/post-once/post-once/internal/respcodec.ErrCorrupt"], fn := fun _ => fun
  | [d1, d2, g1] => { results := [.lit (.bool false)], args := [d1, d2], vars := [g1] }
  | _ => none }
def FnDecoderCountMatchesUvarintModelWrongFalsely : Prop := fnDecoderCountMatchesUvarintModelRow.holds Tryd.pinned (OpenSpec.ofChange fnDecoderCountMatchesUvarintModelWrong)

end Rows
end Go.Proofs.Qxb6605731aDoor
