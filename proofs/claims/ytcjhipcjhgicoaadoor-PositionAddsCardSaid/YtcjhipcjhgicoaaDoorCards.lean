/-
  DERIVED. GIVEN WITH THE SEED: THE CARDS: each row of YtcjhipcjhgicoaaDoorRows.lean that lists a variable, with what it lists TIED to the program's text (the seventh form; the later family's looks); each row that meets fmt, with fmt's text TOLD by the authors' own Lean function (tested against real Go, not proved from fmt's source: count such statements apart). THE CARD IS WHAT COUNTS. Prove the row's statement (the work); the ties are given (YtcjhipcjhgicoaaDoorTie.lean); close each card by the builder's one call (the guide's Derived/Test/ToyasCard.lean, 'card_holds'). Laid BY PROGRAM, IN A SANDBOX (cutbox-door.mjs). By AI agents, Wed Nov 11 2026. No macro, syntax, notation, axiom, sorry.
-/
import Derived.Test.YtcjhipcjhgicoaaDoorRows
import GoSem.ClaimSeven
namespace Go.Proofs.YtcjhipcjhgicoaaDoor
namespace Rows

/-- THE TIED CARD OF 'rosettalaw02.PositionFinds'. -/
def positionFindsCard : Claim7 := { stood := { row := positionFindsRow, standIns := [], harness := (true, "e940c6397ce529363124058429e47e45bba70755d02c136d09f57bd387a3b279"), looks := false }, kinds := [], alts := [], laidByText := true, laidKinds := [.data, .pinned], laidTests := true, laidLooks := .later }
def PositionFindsCardSaid : Prop := Claim7.holds Tryd.pinned (.plain (OpenSpec.ofChange positionFindsSpec)) positionFindsCard

/-- THE TIED CARD OF 'rosettalaw02.PositionReturns'. -/
def positionReturnsCard : Claim7 := { stood := { row := positionReturnsRow, standIns := [], harness := (true, "e940c6397ce529363124058429e47e45bba70755d02c136d09f57bd387a3b279"), looks := false }, kinds := [], alts := [], laidByText := true, laidKinds := [.data, .pinned], laidTests := true, laidLooks := .later }
def PositionReturnsCardSaid : Prop := Claim7.holds Tryd.pinned (.plain (OpenSpec.ofChange positionReturnsSpec)) positionReturnsCard

/-- THE TIED CARD OF 'rosettalaw02.PositionBack'. -/
def positionBackCard : Claim7 := { stood := { row := positionBackRow, standIns := [], harness := (true, "e940c6397ce529363124058429e47e45bba70755d02c136d09f57bd387a3b279"), looks := false }, kinds := [], alts := [], laidByText := true, laidKinds := [.data, .pinned], laidTests := true, laidLooks := .later }
def PositionBackCardSaid : Prop := Claim7.holds Tryd.pinned (.plain (OpenSpec.ofChange positionBackSpec)) positionBackCard

/-- THE TIED CARD OF 'rosettalaw02.PositionJoins'. -/
def positionJoinsCard : Claim7 := { stood := { row := positionJoinsRow, standIns := [], harness := (true, "e940c6397ce529363124058429e47e45bba70755d02c136d09f57bd387a3b279"), looks := false }, kinds := [], alts := [], laidByText := true, laidKinds := [.data, .pinned], laidTests := true, laidLooks := .later }
def PositionJoinsCardSaid : Prop := Claim7.holds Tryd.pinned (.plain (OpenSpec.ofChange positionJoinsSpec)) positionJoinsCard

/-- THE TIED CARD OF 'rosettalaw02.PositionIndents'. -/
def positionIndentsCard : Claim7 := { stood := { row := positionIndentsRow, standIns := [], harness := (true, "e940c6397ce529363124058429e47e45bba70755d02c136d09f57bd387a3b279"), looks := false }, kinds := [], alts := [], laidByText := true, laidKinds := [.data, .pinned], laidTests := true, laidLooks := .later }
def PositionIndentsCardSaid : Prop := Claim7.holds Tryd.pinned (.plain (OpenSpec.ofChange positionIndentsSpec)) positionIndentsCard

/-- THE TIED CARD OF 'rosettalaw02.PositionZero'. -/
def positionZeroCard : Claim7 := { stood := { row := positionZeroRow, standIns := [], harness := (true, "e940c6397ce529363124058429e47e45bba70755d02c136d09f57bd387a3b279"), looks := false }, kinds := [], alts := [], laidByText := true, laidKinds := [.data, .pinned], laidTests := true, laidLooks := .later }
def PositionZeroCardSaid : Prop := Claim7.holds Tryd.pinned (.plain (OpenSpec.ofChange positionZeroSpec)) positionZeroCard

/-- THE TIED CARD OF 'rosettalaw02.PositionAdds'. -/
def positionAddsCard : Claim7 := { stood := { row := positionAddsRow, standIns := [], harness := (true, "e940c6397ce529363124058429e47e45bba70755d02c136d09f57bd387a3b279"), looks := false }, kinds := [], alts := [], laidByText := true, laidKinds := [.data, .pinned], laidTests := true, laidLooks := .later }
def PositionAddsCardSaid : Prop := Claim7.holds Tryd.pinned (.plain (OpenSpec.ofChange positionAddsSpec)) positionAddsCard

/-- THE SECOND FORM's CARD OF 'rosettalaw02.PositionFinds'. -/
def positionFindsUptoCard : Claim7 := { stood := { row := positionFindsUptoRow, standIns := [], harness := (true, "e940c6397ce529363124058429e47e45bba70755d02c136d09f57bd387a3b279"), looks := false }, kinds := [], alts := [], laidByText := true, laidKinds := [.data, .pinned], laidTests := true, laidLooks := .later }
def PositionFindsUptoCardSaid : Prop := Claim7.holds Tryd.pinned (.plain (OpenSpec.upto positionFindsSpec)) positionFindsUptoCard

/-- THE SECOND FORM's CARD OF 'rosettalaw02.PositionReturns'. -/
def positionReturnsUptoCard : Claim7 := { stood := { row := positionReturnsUptoRow, standIns := [], harness := (true, "e940c6397ce529363124058429e47e45bba70755d02c136d09f57bd387a3b279"), looks := false }, kinds := [], alts := [], laidByText := true, laidKinds := [.data, .pinned], laidTests := true, laidLooks := .later }
def PositionReturnsUptoCardSaid : Prop := Claim7.holds Tryd.pinned (.plain (OpenSpec.upto positionReturnsSpec)) positionReturnsUptoCard

/-- THE SECOND FORM's CARD OF 'rosettalaw02.PositionBack'. -/
def positionBackUptoCard : Claim7 := { stood := { row := positionBackUptoRow, standIns := [], harness := (true, "e940c6397ce529363124058429e47e45bba70755d02c136d09f57bd387a3b279"), looks := false }, kinds := [], alts := [], laidByText := true, laidKinds := [.data, .pinned], laidTests := true, laidLooks := .later }
def PositionBackUptoCardSaid : Prop := Claim7.holds Tryd.pinned (.plain (OpenSpec.upto positionBackSpec)) positionBackUptoCard

/-- THE SECOND FORM's CARD OF 'rosettalaw02.PositionJoins'. -/
def positionJoinsUptoCard : Claim7 := { stood := { row := positionJoinsUptoRow, standIns := [], harness := (true, "e940c6397ce529363124058429e47e45bba70755d02c136d09f57bd387a3b279"), looks := false }, kinds := [], alts := [], laidByText := true, laidKinds := [.data, .pinned], laidTests := true, laidLooks := .later }
def PositionJoinsUptoCardSaid : Prop := Claim7.holds Tryd.pinned (.plain (OpenSpec.upto positionJoinsSpec)) positionJoinsUptoCard

/-- THE SECOND FORM's CARD OF 'rosettalaw02.PositionIndents'. -/
def positionIndentsUptoCard : Claim7 := { stood := { row := positionIndentsUptoRow, standIns := [], harness := (true, "e940c6397ce529363124058429e47e45bba70755d02c136d09f57bd387a3b279"), looks := false }, kinds := [], alts := [], laidByText := true, laidKinds := [.data, .pinned], laidTests := true, laidLooks := .later }
def PositionIndentsUptoCardSaid : Prop := Claim7.holds Tryd.pinned (.plain (OpenSpec.upto positionIndentsSpec)) positionIndentsUptoCard

/-- THE SECOND FORM's CARD OF 'rosettalaw02.PositionZero'. -/
def positionZeroUptoCard : Claim7 := { stood := { row := positionZeroUptoRow, standIns := [], harness := (true, "e940c6397ce529363124058429e47e45bba70755d02c136d09f57bd387a3b279"), looks := false }, kinds := [], alts := [], laidByText := true, laidKinds := [.data, .pinned], laidTests := true, laidLooks := .later }
def PositionZeroUptoCardSaid : Prop := Claim7.holds Tryd.pinned (.plain (OpenSpec.upto positionZeroSpec)) positionZeroUptoCard

/-- THE SECOND FORM's CARD OF 'rosettalaw02.PositionAdds'. -/
def positionAddsUptoCard : Claim7 := { stood := { row := positionAddsUptoRow, standIns := [], harness := (true, "e940c6397ce529363124058429e47e45bba70755d02c136d09f57bd387a3b279"), looks := false }, kinds := [], alts := [], laidByText := true, laidKinds := [.data, .pinned], laidTests := true, laidLooks := .later }
def PositionAddsUptoCardSaid : Prop := Claim7.holds Tryd.pinned (.plain (OpenSpec.upto positionAddsSpec)) positionAddsUptoCard
end Rows
end Go.Proofs.YtcjhipcjhgicoaaDoor
