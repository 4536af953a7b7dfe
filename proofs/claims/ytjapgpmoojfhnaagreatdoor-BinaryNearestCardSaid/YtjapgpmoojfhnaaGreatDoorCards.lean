/-
  DERIVED. GIVEN WITH THE SEED: THE CARDS: each row of YtjapgpmoojfhnaaGreatDoorRows.lean that lists a variable, with what it lists TIED to the program's text (the seventh form; the later family's looks); each row that meets fmt, with fmt's text TOLD by the authors' own Lean function (tested against real Go, not proved from fmt's source: count such statements apart). THE CARD IS WHAT COUNTS. Prove the row's statement (the work); the ties are given (YtjapgpmoojfhnaaGreatDoorTie.lean); close each card by the builder's one call (the guide's Derived/Test/ToyasCard.lean, 'card_holds'). Laid BY PROGRAM, IN A SANDBOX (cutbox-door.mjs). By AI agents, Wed Nov 11 2026. No macro, syntax, notation, axiom, sorry.
-/
import Derived.Test.YtjapgpmoojfhnaaGreatDoorRows
import GoSem.ClaimSeven
namespace Go.Proofs.YtjapgpmoojfhnaaGreatDoor
namespace Rows

/-- THE TIED CARD OF 'rosettalaw05.BinaryDecimals'. -/
def binaryDecimalsCard : Claim7 := { stood := { row := binaryDecimalsRow, standIns := [], harness := (true, "abf01bec375f80630e58fb6653fe9c3f229fc5d9c9d63710899b288d829d186a"), looks := true }, kinds := [], alts := [], laidByText := true, laidKinds := [.data, .data, .widerDeep, .widerDeep, .data, .data, .data, .data, .data, .data, .sentinel, .sentinel, .data, .pinned, .pinned, .pinned], laidTests := true, laidLooks := .later }
def BinaryDecimalsCardSaid : Prop := Claim7.holds Tryz.pinned (.plain (OpenSpec.ofChange binaryDecimalsSpec)) binaryDecimalsCard

/-- THE TIED CARD OF 'rosettalaw05.BinaryMonotone'. -/
def binaryMonotoneCard : Claim7 := { stood := { row := binaryMonotoneRow, standIns := [], harness := (true, "abf01bec375f80630e58fb6653fe9c3f229fc5d9c9d63710899b288d829d186a"), looks := true }, kinds := [], alts := [], laidByText := true, laidKinds := [.data, .data, .widerDeep, .widerDeep, .data, .data, .data, .data, .data, .data, .sentinel, .sentinel, .data, .pinned, .pinned, .pinned], laidTests := true, laidLooks := .later }
def BinaryMonotoneCardSaid : Prop := Claim7.holds Tryz.pinned (.plain (OpenSpec.ofChange binaryMonotoneSpec)) binaryMonotoneCard

/-- THE TIED CARD OF 'rosettalaw05.BinaryReads'. -/
def binaryReadsCard : Claim7 := { stood := { row := binaryReadsRow, standIns := [], harness := (true, "abf01bec375f80630e58fb6653fe9c3f229fc5d9c9d63710899b288d829d186a"), looks := true }, kinds := [], alts := [], laidByText := true, laidKinds := [.data, .data, .data, .data, .sentinel, .sentinel, .data, .pinned], laidTests := true, laidLooks := .later }
def BinaryReadsCardSaid : Prop := Claim7.holds Tryz.pinned (.plain (OpenSpec.ofChange binaryReadsSpec)) binaryReadsCard

/-- THE TIED CARD OF 'rosettalaw05.BinaryRounds'. -/
def binaryRoundsCard : Claim7 := { stood := { row := binaryRoundsRow, standIns := [], harness := (true, "abf01bec375f80630e58fb6653fe9c3f229fc5d9c9d63710899b288d829d186a"), looks := true }, kinds := [], alts := [], laidByText := true, laidKinds := [.data, .data, .data, .data, .sentinel, .sentinel, .data, .pinned], laidTests := true, laidLooks := .later }
def BinaryRoundsCardSaid : Prop := Claim7.holds Tryz.pinned (.plain (OpenSpec.ofChange binaryRoundsSpec)) binaryRoundsCard

/-- THE TIED CARD OF 'rosettalaw05.BinaryHardware'. -/
def binaryHardwareCard : Claim7 := { stood := { row := binaryHardwareRow, standIns := [], harness := (true, "abf01bec375f80630e58fb6653fe9c3f229fc5d9c9d63710899b288d829d186a"), looks := true }, kinds := [], alts := [], laidByText := true, laidKinds := [.data, .data, .data, .data, .sentinel, .sentinel, .data, .pinned], laidTests := true, laidLooks := .later }
def BinaryHardwareCardSaid : Prop := Claim7.holds Tryz.pinned (.plain (OpenSpec.ofChange binaryHardwareSpec)) binaryHardwareCard

/-- THE TIED CARD OF 'rosettalaw05.BinaryCompares'. -/
def binaryComparesCard : Claim7 := { stood := { row := binaryComparesRow, standIns := [], harness := (true, "abf01bec375f80630e58fb6653fe9c3f229fc5d9c9d63710899b288d829d186a"), looks := true }, kinds := [], alts := [], laidByText := true, laidKinds := [.data, .data, .data, .data, .sentinel, .sentinel, .data, .pinned], laidTests := true, laidLooks := .later }
def BinaryComparesCardSaid : Prop := Claim7.holds Tryz.pinned (.plain (OpenSpec.ofChange binaryComparesSpec)) binaryComparesCard

/-- THE TIED CARD OF 'rosettalaw05.BinaryRefuses'. -/
def binaryRefusesCard : Claim7 := { stood := { row := binaryRefusesRow, standIns := [], harness := (true, "abf01bec375f80630e58fb6653fe9c3f229fc5d9c9d63710899b288d829d186a"), looks := true }, kinds := [], alts := [], laidByText := true, laidKinds := [.data, .data, .data, .data, .sentinel, .sentinel, .data, .pinned], laidTests := true, laidLooks := .later }
def BinaryRefusesCardSaid : Prop := Claim7.holds Tryz.pinned (.plain (OpenSpec.ofChange binaryRefusesSpec)) binaryRefusesCard

/-- THE TIED CARD OF 'rosettalaw05.BinaryMakes'. -/
def binaryMakesCard : Claim7 := { stood := { row := binaryMakesRow, standIns := [], harness := (true, "abf01bec375f80630e58fb6653fe9c3f229fc5d9c9d63710899b288d829d186a"), looks := true }, kinds := [], alts := [], laidByText := true, laidKinds := [.data, .data, .data, .data, .sentinel, .sentinel, .data, .pinned], laidTests := true, laidLooks := .later }
def BinaryMakesCardSaid : Prop := Claim7.holds Tryz.pinned (.plain (OpenSpec.ofChange binaryMakesSpec)) binaryMakesCard

/-- THE TIED CARD OF 'rosettalaw05.BinaryNearest'. -/
def binaryNearestCard : Claim7 := { stood := { row := binaryNearestRow, standIns := [], harness := (true, "abf01bec375f80630e58fb6653fe9c3f229fc5d9c9d63710899b288d829d186a"), looks := true }, kinds := [], alts := [], laidByText := true, laidKinds := [.data, .data, .widerDeep, .widerDeep, .data, .data, .data, .data, .data, .data, .sentinel, .sentinel, .data, .pinned, .pinned, .pinned], laidTests := true, laidLooks := .later }
def BinaryNearestCardSaid : Prop := Claim7.holds Tryz.pinned (.plain (OpenSpec.ofChange binaryNearestSpec)) binaryNearestCard

/-- THE TIED CARD OF 'rosettalaw05.BinaryShortest'. -/
def binaryShortestCard : Claim7 := { stood := { row := binaryShortestRow, standIns := [], harness := (true, "abf01bec375f80630e58fb6653fe9c3f229fc5d9c9d63710899b288d829d186a"), looks := true }, kinds := [], alts := [], laidByText := true, laidKinds := [.data, .data, .widerDeep, .widerDeep, .data, .data, .data, .data, .data, .data, .sentinel, .sentinel, .data, .pinned, .pinned, .pinned], laidTests := true, laidLooks := .later }
def BinaryShortestCardSaid : Prop := Claim7.holds Tryz.pinned (.plain (OpenSpec.ofChange binaryShortestSpec)) binaryShortestCard

/-- THE SECOND FORM's CARD OF 'rosettalaw05.BinaryDecimals'. -/
def binaryDecimalsUptoCard : Claim7 := { stood := { row := binaryDecimalsUptoRow, standIns := [], harness := (true, "abf01bec375f80630e58fb6653fe9c3f229fc5d9c9d63710899b288d829d186a"), looks := true }, kinds := [], alts := [], laidByText := true, laidKinds := [.data, .data, .widerDeep, .widerDeep, .data, .data, .data, .data, .data, .data, .sentinel, .sentinel, .data, .pinned, .pinned, .pinned], laidTests := true, laidLooks := .later }
def BinaryDecimalsUptoCardSaid : Prop := Claim7.holds Tryz.pinned (.plain (OpenSpec.upto binaryDecimalsSpec)) binaryDecimalsUptoCard

/-- THE SECOND FORM's CARD OF 'rosettalaw05.BinaryMonotone'. -/
def binaryMonotoneUptoCard : Claim7 := { stood := { row := binaryMonotoneUptoRow, standIns := [], harness := (true, "abf01bec375f80630e58fb6653fe9c3f229fc5d9c9d63710899b288d829d186a"), looks := true }, kinds := [], alts := [], laidByText := true, laidKinds := [.data, .data, .widerDeep, .widerDeep, .data, .data, .data, .data, .data, .data, .sentinel, .sentinel, .data, .pinned, .pinned, .pinned], laidTests := true, laidLooks := .later }
def BinaryMonotoneUptoCardSaid : Prop := Claim7.holds Tryz.pinned (.plain (OpenSpec.upto binaryMonotoneSpec)) binaryMonotoneUptoCard

/-- THE SECOND FORM's CARD OF 'rosettalaw05.BinaryReads'. -/
def binaryReadsUptoCard : Claim7 := { stood := { row := binaryReadsUptoRow, standIns := [], harness := (true, "abf01bec375f80630e58fb6653fe9c3f229fc5d9c9d63710899b288d829d186a"), looks := true }, kinds := [], alts := [], laidByText := true, laidKinds := [.data, .data, .data, .data, .sentinel, .sentinel, .data, .pinned], laidTests := true, laidLooks := .later }
def BinaryReadsUptoCardSaid : Prop := Claim7.holds Tryz.pinned (.plain (OpenSpec.upto binaryReadsSpec)) binaryReadsUptoCard

/-- THE SECOND FORM's CARD OF 'rosettalaw05.BinaryRounds'. -/
def binaryRoundsUptoCard : Claim7 := { stood := { row := binaryRoundsUptoRow, standIns := [], harness := (true, "abf01bec375f80630e58fb6653fe9c3f229fc5d9c9d63710899b288d829d186a"), looks := true }, kinds := [], alts := [], laidByText := true, laidKinds := [.data, .data, .data, .data, .sentinel, .sentinel, .data, .pinned], laidTests := true, laidLooks := .later }
def BinaryRoundsUptoCardSaid : Prop := Claim7.holds Tryz.pinned (.plain (OpenSpec.upto binaryRoundsSpec)) binaryRoundsUptoCard

/-- THE SECOND FORM's CARD OF 'rosettalaw05.BinaryHardware'. -/
def binaryHardwareUptoCard : Claim7 := { stood := { row := binaryHardwareUptoRow, standIns := [], harness := (true, "abf01bec375f80630e58fb6653fe9c3f229fc5d9c9d63710899b288d829d186a"), looks := true }, kinds := [], alts := [], laidByText := true, laidKinds := [.data, .data, .data, .data, .sentinel, .sentinel, .data, .pinned], laidTests := true, laidLooks := .later }
def BinaryHardwareUptoCardSaid : Prop := Claim7.holds Tryz.pinned (.plain (OpenSpec.upto binaryHardwareSpec)) binaryHardwareUptoCard

/-- THE SECOND FORM's CARD OF 'rosettalaw05.BinaryCompares'. -/
def binaryComparesUptoCard : Claim7 := { stood := { row := binaryComparesUptoRow, standIns := [], harness := (true, "abf01bec375f80630e58fb6653fe9c3f229fc5d9c9d63710899b288d829d186a"), looks := true }, kinds := [], alts := [], laidByText := true, laidKinds := [.data, .data, .data, .data, .sentinel, .sentinel, .data, .pinned], laidTests := true, laidLooks := .later }
def BinaryComparesUptoCardSaid : Prop := Claim7.holds Tryz.pinned (.plain (OpenSpec.upto binaryComparesSpec)) binaryComparesUptoCard

/-- THE SECOND FORM's CARD OF 'rosettalaw05.BinaryRefuses'. -/
def binaryRefusesUptoCard : Claim7 := { stood := { row := binaryRefusesUptoRow, standIns := [], harness := (true, "abf01bec375f80630e58fb6653fe9c3f229fc5d9c9d63710899b288d829d186a"), looks := true }, kinds := [], alts := [], laidByText := true, laidKinds := [.data, .data, .data, .data, .sentinel, .sentinel, .data, .pinned], laidTests := true, laidLooks := .later }
def BinaryRefusesUptoCardSaid : Prop := Claim7.holds Tryz.pinned (.plain (OpenSpec.upto binaryRefusesSpec)) binaryRefusesUptoCard

/-- THE SECOND FORM's CARD OF 'rosettalaw05.BinaryMakes'. -/
def binaryMakesUptoCard : Claim7 := { stood := { row := binaryMakesUptoRow, standIns := [], harness := (true, "abf01bec375f80630e58fb6653fe9c3f229fc5d9c9d63710899b288d829d186a"), looks := true }, kinds := [], alts := [], laidByText := true, laidKinds := [.data, .data, .data, .data, .sentinel, .sentinel, .data, .pinned], laidTests := true, laidLooks := .later }
def BinaryMakesUptoCardSaid : Prop := Claim7.holds Tryz.pinned (.plain (OpenSpec.upto binaryMakesSpec)) binaryMakesUptoCard

/-- THE SECOND FORM's CARD OF 'rosettalaw05.BinaryNearest'. -/
def binaryNearestUptoCard : Claim7 := { stood := { row := binaryNearestUptoRow, standIns := [], harness := (true, "abf01bec375f80630e58fb6653fe9c3f229fc5d9c9d63710899b288d829d186a"), looks := true }, kinds := [], alts := [], laidByText := true, laidKinds := [.data, .data, .widerDeep, .widerDeep, .data, .data, .data, .data, .data, .data, .sentinel, .sentinel, .data, .pinned, .pinned, .pinned], laidTests := true, laidLooks := .later }
def BinaryNearestUptoCardSaid : Prop := Claim7.holds Tryz.pinned (.plain (OpenSpec.upto binaryNearestSpec)) binaryNearestUptoCard

/-- THE SECOND FORM's CARD OF 'rosettalaw05.BinaryShortest'. -/
def binaryShortestUptoCard : Claim7 := { stood := { row := binaryShortestUptoRow, standIns := [], harness := (true, "abf01bec375f80630e58fb6653fe9c3f229fc5d9c9d63710899b288d829d186a"), looks := true }, kinds := [], alts := [], laidByText := true, laidKinds := [.data, .data, .widerDeep, .widerDeep, .data, .data, .data, .data, .data, .data, .sentinel, .sentinel, .data, .pinned, .pinned, .pinned], laidTests := true, laidLooks := .later }
def BinaryShortestUptoCardSaid : Prop := Claim7.holds Tryz.pinned (.plain (OpenSpec.upto binaryShortestSpec)) binaryShortestUptoCard
end Rows
end Go.Proofs.YtjapgpmoojfhnaaGreatDoor
