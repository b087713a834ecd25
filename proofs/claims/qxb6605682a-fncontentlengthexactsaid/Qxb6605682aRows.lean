/-
  No cell of these rows narrows 'for every input' (looked for: loops, veiled, ifaces, maps, wideKeys, modest, calm, conditions, laid).
  DERIVED. THE GIVEN ROWS OF THIS SEAT. 4 by the template 'for every input the law returns true; each argument reads behind the call as it read before'; 0 by the template 'total and deterministic' (their statements: Qxb6605682aTotals.lean).
  GIVEN WITH THE SEED: the statements are not yours to turn. If you find one false, say at which input.
  Laid BY PROGRAM, IN A SANDBOX (cutbox-rows.mjs): the forced cells as the released guide's own fill.sh prints them over the translation 9dc69b204bbdd3b1… (all of the seat's roots in one cut). By AI agents, Wed Nov 11 2026. No macro, syntax, notation, axiom, sorry.
-/
import Derived.Test.Qxb6605682aChecked
import GoSem.Claim
import GoSem.ClaimJoined
import GoSem.ClaimMapViews
import Derived.JoinedTies
import Derived.KernelRfl
namespace Go.Proofs.Qxb6605682a
/- THE CELL 'sum', in the pinned program and in every row, IS THE sha256 OF THE DUMP (.gsa) THAT Qxb6605682aProg.lean LOADS. Nothing in Lean hashes anything: it is a label: what it is worth is what the hold of that sum in a sandbox is worth. -/
noncomputable def Try.pinned : Pinned := { name := "qxb6605682a", sum := "9dc69b204bbdd3b12ddcda6f3fec1cc3fbeb9a768fafa840b9b04a85291ecc6b", checked := Try.checked }
namespace Rows
def none {H : Type} : Left H := { results := [], args := [] }

/-- 'zzlaws_http1_b1.FnContentLengthExact': WHATEVER THE INPUT: true; the input reads as it did. -/
def fnContentLengthExactSpec : ChangeSpec := { name := "fnContentLengthExact", fn := fun _ => fun
  | [d] => { results := [.lit (.bool true)], args := [d] }
  | _ => none }
def fnContentLengthExactRow : OpenClaim := { program := "qxb6605682a", sum := "9dc69b204bbdd3b12ddcda6f3fec1cc3fbeb9a768fafa840b9b04a85291ecc6b", func := "example.com/sluiceway/sluiceway/zzlaws_http1_b1.FnContentLengthExact", spec := "fnContentLengthExact", apart := false }
def FnContentLengthExactSaid : Prop := fnContentLengthExactRow.holds Try.pinned (OpenSpec.ofChange fnContentLengthExactSpec)

/-- ITS FALSE NEIGHBOUR: 'it returns false'. Refute it at one input. -/
def fnContentLengthExactWrong : ChangeSpec := { name := "fnContentLengthExact", fn := fun _ => fun
  | [d] => { results := [.lit (.bool false)], args := [d] }
  | _ => none }
def FnContentLengthExactWrongFalsely : Prop := fnContentLengthExactRow.holds Try.pinned (OpenSpec.ofChange fnContentLengthExactWrong)

/-- 'zzlaws_http1_b1.FnContentLengthRoundTrip': WHATEVER THE INPUT: true; the input reads as it did. -/
def fnContentLengthRoundTripSpec : ChangeSpec := { name := "fnContentLengthRoundTrip", fn := fun _ => fun
  | [d1, d2] => { results := [.lit (.bool true)], args := [d1, d2] }
  | _ => none }
def fnContentLengthRoundTripRow : OpenClaim := { program := "qxb6605682a", sum := "9dc69b204bbdd3b12ddcda6f3fec1cc3fbeb9a768fafa840b9b04a85291ecc6b", func := "example.com/sluiceway/sluiceway/zzlaws_http1_b1.FnContentLengthRoundTrip", spec := "fnContentLengthRoundTrip", apart := false }
def FnContentLengthRoundTripSaid : Prop := fnContentLengthRoundTripRow.holds Try.pinned (OpenSpec.ofChange fnContentLengthRoundTripSpec)

/-- ITS FALSE NEIGHBOUR: 'it returns false'. Refute it at one input. -/
def fnContentLengthRoundTripWrong : ChangeSpec := { name := "fnContentLengthRoundTrip", fn := fun _ => fun
  | [d1, d2] => { results := [.lit (.bool false)], args := [d1, d2] }
  | _ => none }
def FnContentLengthRoundTripWrongFalsely : Prop := fnContentLengthRoundTripRow.holds Try.pinned (OpenSpec.ofChange fnContentLengthRoundTripWrong)

/-- 'zzlaws_http1_b1.FnBodyAllowedByClass': WHATEVER THE INPUT: true; the input reads as it did. -/
def fnBodyAllowedByClassSpec : ChangeSpec := { name := "fnBodyAllowedByClass", fn := fun _ => fun
  | [d] => { results := [.lit (.bool true)], args := [d] }
  | _ => none }
def fnBodyAllowedByClassRow : OpenClaim := { program := "qxb6605682a", sum := "9dc69b204bbdd3b12ddcda6f3fec1cc3fbeb9a768fafa840b9b04a85291ecc6b", func := "example.com/sluiceway/sluiceway/zzlaws_http1_b1.FnBodyAllowedByClass", spec := "fnBodyAllowedByClass", apart := false }
def FnBodyAllowedByClassSaid : Prop := fnBodyAllowedByClassRow.holds Try.pinned (OpenSpec.ofChange fnBodyAllowedByClassSpec)

/-- ITS FALSE NEIGHBOUR: 'it returns false'. Refute it at one input. -/
def fnBodyAllowedByClassWrong : ChangeSpec := { name := "fnBodyAllowedByClass", fn := fun _ => fun
  | [d] => { results := [.lit (.bool false)], args := [d] }
  | _ => none }
def FnBodyAllowedByClassWrongFalsely : Prop := fnBodyAllowedByClassRow.holds Try.pinned (OpenSpec.ofChange fnBodyAllowedByClassWrong)

/-- 'zzlaws_http1_b1.FnBodyAllowedCount': WHATEVER THE INPUT: true; the input reads as it did. -/
def fnBodyAllowedCountSpec : ChangeSpec := { name := "fnBodyAllowedCount", fn := fun _ => fun
  | [d1, d2] => { results := [.lit (.bool true)], args := [d1, d2] }
  | _ => none }
def fnBodyAllowedCountRow : OpenClaim := { program := "qxb6605682a", sum := "9dc69b204bbdd3b12ddcda6f3fec1cc3fbeb9a768fafa840b9b04a85291ecc6b", func := "example.com/sluiceway/sluiceway/zzlaws_http1_b1.FnBodyAllowedCount", spec := "fnBodyAllowedCount", apart := false }
def FnBodyAllowedCountSaid : Prop := fnBodyAllowedCountRow.holds Try.pinned (OpenSpec.ofChange fnBodyAllowedCountSpec)

/-- ITS FALSE NEIGHBOUR: 'it returns false'. Refute it at one input. -/
def fnBodyAllowedCountWrong : ChangeSpec := { name := "fnBodyAllowedCount", fn := fun _ => fun
  | [d1, d2] => { results := [.lit (.bool false)], args := [d1, d2] }
  | _ => none }
def FnBodyAllowedCountWrongFalsely : Prop := fnBodyAllowedCountRow.holds Try.pinned (OpenSpec.ofChange fnBodyAllowedCountWrong)

end Rows
end Go.Proofs.Qxb6605682a
