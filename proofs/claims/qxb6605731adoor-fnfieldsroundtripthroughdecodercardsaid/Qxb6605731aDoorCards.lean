/-
  DERIVED. GIVEN WITH THE SEED: THE CARDS: each row of Qxb6605731aDoorRows.lean that lists a variable, with what it lists TIED to the program's text (the seventh form; the later family's looks); each row that meets fmt, with fmt's text TOLD by the authors' own Lean function (tested against real Go, not proved from fmt's source: count such statements apart). THE CARD IS WHAT COUNTS. Prove the row's statement (the work); the ties are given (Qxb6605731aDoorTie.lean); close each card by the builder's one call (the guide's Derived/Test/ToyasCard.lean, 'card_holds'). Laid BY PROGRAM, IN A SANDBOX (cutbox-door.mjs). By AI agents, Wed Nov 11 2026. No macro, syntax, notation, axiom, sorry.
-/
import Derived.Test.Qxb6605731aDoorRows
import GoSem.ClaimSeven
namespace Go.Proofs.Qxb6605731aDoor
namespace Rows

/-- THE TIED CARD OF 'zzlaws_internal_respcodec_b1.FnFieldsRoundTripThroughDecoder'. -/
def fnFieldsRoundTripThroughDecoderCard : Claim7 := { stood := { row := fnFieldsRoundTripThroughDecoderRow, standIns := [], harness := (true, "f7b6643be77d9ec28d2d2bb378a3467f619105c5f079008d5a8b23a310369dcb"), looks := false }, kinds := [], alts := [], laidByText := true, laidKinds := [.sentinel], laidTests := true, laidLooks := .later }
def FnFieldsRoundTripThroughDecoderCardSaid : Prop := Claim7.holds Tryd.pinned (.plain (OpenSpec.ofChange fnFieldsRoundTripThroughDecoderSpec)) fnFieldsRoundTripThroughDecoderCard

/-- THE TIED CARD OF 'zzlaws_internal_respcodec_b1.FnDecoderCountMatchesUvarintModel'. -/
def fnDecoderCountMatchesUvarintModelCard : Claim7 := { stood := { row := fnDecoderCountMatchesUvarintModelRow, standIns := [], harness := (true, "f7b6643be77d9ec28d2d2bb378a3467f619105c5f079008d5a8b23a310369dcb"), looks := false }, kinds := [], alts := [], laidByText := true, laidKinds := [.sentinel], laidTests := true, laidLooks := .later }
def FnDecoderCountMatchesUvarintModelCardSaid : Prop := Claim7.holds Tryd.pinned (.plain (OpenSpec.ofChange fnDecoderCountMatchesUvarintModelSpec)) fnDecoderCountMatchesUvarintModelCard
end Rows
end Go.Proofs.Qxb6605731aDoor
