/-
  DERIVED. GIVEN WITH THE SEED: THE CARDS: each row of YtmgafnflkfbckaaGreatDoorRows.lean that lists a variable, with what it lists TIED to the program's text (the seventh form; the later family's looks); each row that meets fmt, with fmt's text TOLD by the authors' own Lean function (tested against real Go, not proved from fmt's source: count such statements apart). THE CARD IS WHAT COUNTS. Prove the row's statement (the work); the ties are given (YtmgafnflkfbckaaGreatDoorTie.lean); close each card by the builder's one call (the guide's Derived/Test/ToyasCard.lean, 'card_holds'). Laid BY PROGRAM, IN A SANDBOX (cutbox-door.mjs). By AI agents, Wed Nov 11 2026. No macro, syntax, notation, axiom, sorry.
-/
import Derived.Test.YtmgafnflkfbckaaGreatDoorRows
import GoSem.ClaimSeven
namespace Go.Proofs.YtmgafnflkfbckaaGreatDoor
namespace Rows

/-- THE TIED CARD OF 'rosettalaw04.DecimalAdds'. -/
def decimalAddsCard : Claim7 := { stood := { row := decimalAddsRow, standIns := [], harness := (true, "77330ab0442259ff2f847290e543acd8b1171d2658e6e39384776798884e5bb1"), looks := true }, kinds := [], alts := [], laidByText := true, laidKinds := [.data, .data, .data, .sentinel, .sentinel], laidTests := true, laidLooks := .later }
def DecimalAddsCardSaid : Prop := Claim7.holds Tryz.pinned (.plain (OpenSpec.ofChange decimalAddsSpec)) decimalAddsCard

/-- THE SECOND FORM's CARD OF 'rosettalaw04.DecimalAdds'. -/
def decimalAddsUptoCard : Claim7 := { stood := { row := decimalAddsUptoRow, standIns := [], harness := (true, "77330ab0442259ff2f847290e543acd8b1171d2658e6e39384776798884e5bb1"), looks := true }, kinds := [], alts := [], laidByText := true, laidKinds := [.data, .data, .data, .sentinel, .sentinel], laidTests := true, laidLooks := .later }
def DecimalAddsUptoCardSaid : Prop := Claim7.holds Tryz.pinned (.plain (OpenSpec.upto decimalAddsSpec)) decimalAddsUptoCard
end Rows
end Go.Proofs.YtmgafnflkfbckaaGreatDoor
