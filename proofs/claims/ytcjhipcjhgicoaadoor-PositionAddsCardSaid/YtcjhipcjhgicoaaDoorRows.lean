/-
  NARROWER THAN 'FOR EVERY INPUT', by the rows' own cells (each row's printed sentence says how): PositionFinds: laid · PositionReturns: laid · PositionBack: laid · PositionJoins: laid · PositionIndents: laid · PositionZero: laid · PositionAdds: laid.
  DERIVED. THE GIVEN ROWS OF THIS SEAT. 7 by the template 'for every input the law returns true; each argument reads behind the call as it read before'; 0 by the template 'total and deterministic' (their statements: YtcjhipcjhgicoaaDoorTotals.lean).
  GIVEN WITH THE SEED: the statements are not yours to turn. If you find one false, say at which input.
  Laid BY PROGRAM, IN A SANDBOX (cutbox-rows.mjs): the forced cells as the released guide's own fill.sh prints them over the translation dbdb9d3bdcb42542… (all of the seat's roots in one cut). By AI agents, Wed Nov 11 2026. No macro, syntax, notation, axiom, sorry.
-/
import Derived.Test.YtcjhipcjhgicoaaDoorChecked
import GoSem.PinnedTables
import GoSem.Claim
import GoSem.ClaimJoined
import GoSem.ClaimMapViews
import Derived.JoinedTies
import Derived.KernelRfl
namespace Go.Proofs.YtcjhipcjhgicoaaDoor
/- THE CELL 'sum', in the pinned program and in every row, IS THE sha256 OF THE DUMP (.gsa) THAT YtcjhipcjhgicoaaDoorProg.lean LOADS. Nothing in Lean hashes anything: it is a label: what it is worth is what the hold of that sum in a sandbox is worth. -/
noncomputable def Tryd.pinned : Pinned := { name := "ytcjhipcjhgicoaadoor", sum := "dbdb9d3bdcb42542b0a41622a7e0fda4e9287b97190356907c752beba7e43fba", checked := Tryd.checked }
namespace Rows
def none {H : Type} : Left H := { results := [], args := [] }

/- WHAT THE LISTED PACKAGE-LEVEL VARIABLES READ AS WHEN THE CALL BEGINS. Each datum BY PROGRAM (the guide's laid-datum.mjs) off the statement by which the dump's own 'gosem.cut.vars' lays the variable. In a bare row this is a premise. The card (YtcjhipcjhgicoaaDoorCards.lean) ties it to the program's text. -/
def laid_unicode_utf8_acceptRanges {H : Type} : DataW H := .agg [.agg [.lit (.int .u8 128), .lit (.int .u8 191)], .agg [.lit (.int .u8 160), .lit (.int .u8 191)], .agg [.lit (.int .u8 128), .lit (.int .u8 159)], .agg [.lit (.int .u8 144), .lit (.int .u8 191)], .agg [.lit (.int .u8 128), .lit (.int .u8 143)], .agg [.lit (.int .u8 0), .lit (.int .u8 0)], .agg [.lit (.int .u8 0), .lit (.int .u8 0)], .agg [.lit (.int .u8 0), .lit (.int .u8 0)], .agg [.lit (.int .u8 0), .lit (.int .u8 0)], .agg [.lit (.int .u8 0), .lit (.int .u8 0)], .agg [.lit (.int .u8 0), .lit (.int .u8 0)], .agg [.lit (.int .u8 0), .lit (.int .u8 0)], .agg [.lit (.int .u8 0), .lit (.int .u8 0)], .agg [.lit (.int .u8 0), .lit (.int .u8 0)], .agg [.lit (.int .u8 0), .lit (.int .u8 0)], .agg [.lit (.int .u8 0), .lit (.int .u8 0)]]
/-- One of Go's own tables, pinned by name: the form's constant. -/
def laid_unicode_utf8_first : DataW Unit := Go.Pinned.utf8First

/-- 'rosettalaw02.PositionFinds': WHATEVER THE INPUT: true; the input reads as it did. -/
def positionFindsSpec : ChangeSpec := { name := "positionFinds", fn := fun _ => fun
  | [d1, d2] => { results := [.lit (.bool true)], args := [d1, d2] }
  | _ => none }
def positionFindsRow : OpenClaim := { program := "ytcjhipcjhgicoaadoor", sum := "dbdb9d3bdcb42542b0a41622a7e0fda4e9287b97190356907c752beba7e43fba", func := "rosetta/rosettalaw02.PositionFinds", spec := "positionFinds", inPlace := ["internal/bytealg.IndexByteString", "internal/bytealg.IndexString"], unfollowed := true, recurses := true, named := ["unicode/utf8.first", "unicode/utf8.acceptRanges", "internal/bytealg.MaxLen"], apart := false, laid := [("unicode/utf8.acceptRanges", laid_unicode_utf8_acceptRanges), ("unicode/utf8.first", laid_unicode_utf8_first)] }
def PositionFindsSaid : Prop := positionFindsRow.holds Tryd.pinned (OpenSpec.ofChange positionFindsSpec)

/-- ITS FALSE NEIGHBOUR: 'it returns false'. Refute it at one input. -/
def positionFindsWrong : ChangeSpec := { name := "positionFinds", fn := fun _ => fun
  | [d1, d2] => { results := [.lit (.bool false)], args := [d1, d2] }
  | _ => none }
def PositionFindsWrongFalsely : Prop := positionFindsRow.holds Tryd.pinned (OpenSpec.ofChange positionFindsWrong)

/-- 'rosettalaw02.PositionReturns': WHATEVER THE INPUT: true; the input reads as it did. -/
def positionReturnsSpec : ChangeSpec := { name := "positionReturns", fn := fun _ => fun
  | [d1, d2, d3] => { results := [.lit (.bool true)], args := [d1, d2, d3] }
  | _ => none }
def positionReturnsRow : OpenClaim := { program := "ytcjhipcjhgicoaadoor", sum := "dbdb9d3bdcb42542b0a41622a7e0fda4e9287b97190356907c752beba7e43fba", func := "rosetta/rosettalaw02.PositionReturns", spec := "positionReturns", inPlace := ["internal/bytealg.IndexByteString", "internal/bytealg.IndexString"], unfollowed := true, recurses := true, named := ["unicode/utf8.first", "unicode/utf8.acceptRanges", "internal/bytealg.MaxLen"], apart := false, laid := [("unicode/utf8.acceptRanges", laid_unicode_utf8_acceptRanges), ("unicode/utf8.first", laid_unicode_utf8_first)] }
def PositionReturnsSaid : Prop := positionReturnsRow.holds Tryd.pinned (OpenSpec.ofChange positionReturnsSpec)

/-- ITS FALSE NEIGHBOUR: 'it returns false'. Refute it at one input. -/
def positionReturnsWrong : ChangeSpec := { name := "positionReturns", fn := fun _ => fun
  | [d1, d2, d3] => { results := [.lit (.bool false)], args := [d1, d2, d3] }
  | _ => none }
def PositionReturnsWrongFalsely : Prop := positionReturnsRow.holds Tryd.pinned (OpenSpec.ofChange positionReturnsWrong)

/-- 'rosettalaw02.PositionBack': WHATEVER THE INPUT: true; the input reads as it did. -/
def positionBackSpec : ChangeSpec := { name := "positionBack", fn := fun _ => fun
  | [d] => { results := [.lit (.bool true)], args := [d] }
  | _ => none }
def positionBackRow : OpenClaim := { program := "ytcjhipcjhgicoaadoor", sum := "dbdb9d3bdcb42542b0a41622a7e0fda4e9287b97190356907c752beba7e43fba", func := "rosetta/rosettalaw02.PositionBack", spec := "positionBack", inPlace := ["internal/bytealg.IndexByteString", "internal/bytealg.IndexString"], unfollowed := true, recurses := true, named := ["unicode/utf8.first", "unicode/utf8.acceptRanges", "internal/bytealg.MaxLen"], apart := false, laid := [("unicode/utf8.acceptRanges", laid_unicode_utf8_acceptRanges), ("unicode/utf8.first", laid_unicode_utf8_first)] }
def PositionBackSaid : Prop := positionBackRow.holds Tryd.pinned (OpenSpec.ofChange positionBackSpec)

/-- ITS FALSE NEIGHBOUR: 'it returns false'. Refute it at one input. -/
def positionBackWrong : ChangeSpec := { name := "positionBack", fn := fun _ => fun
  | [d] => { results := [.lit (.bool false)], args := [d] }
  | _ => none }
def PositionBackWrongFalsely : Prop := positionBackRow.holds Tryd.pinned (OpenSpec.ofChange positionBackWrong)

/-- 'rosettalaw02.PositionJoins': WHATEVER THE INPUT: true; the input reads as it did. -/
def positionJoinsSpec : ChangeSpec := { name := "positionJoins", fn := fun _ => fun
  | [d] => { results := [.lit (.bool true)], args := [d] }
  | _ => none }
def positionJoinsRow : OpenClaim := { program := "ytcjhipcjhgicoaadoor", sum := "dbdb9d3bdcb42542b0a41622a7e0fda4e9287b97190356907c752beba7e43fba", func := "rosetta/rosettalaw02.PositionJoins", spec := "positionJoins", inPlace := ["internal/bytealg.IndexByteString", "internal/bytealg.IndexString"], unfollowed := true, recurses := true, named := ["unicode/utf8.first", "unicode/utf8.acceptRanges", "internal/bytealg.MaxLen"], apart := false, laid := [("unicode/utf8.acceptRanges", laid_unicode_utf8_acceptRanges), ("unicode/utf8.first", laid_unicode_utf8_first)] }
def PositionJoinsSaid : Prop := positionJoinsRow.holds Tryd.pinned (OpenSpec.ofChange positionJoinsSpec)

/-- ITS FALSE NEIGHBOUR: 'it returns false'. Refute it at one input. -/
def positionJoinsWrong : ChangeSpec := { name := "positionJoins", fn := fun _ => fun
  | [d] => { results := [.lit (.bool false)], args := [d] }
  | _ => none }
def PositionJoinsWrongFalsely : Prop := positionJoinsRow.holds Tryd.pinned (OpenSpec.ofChange positionJoinsWrong)

/-- 'rosettalaw02.PositionIndents': WHATEVER THE INPUT: true; the input reads as it did. -/
def positionIndentsSpec : ChangeSpec := { name := "positionIndents", fn := fun _ => fun
  | [d] => { results := [.lit (.bool true)], args := [d] }
  | _ => none }
def positionIndentsRow : OpenClaim := { program := "ytcjhipcjhgicoaadoor", sum := "dbdb9d3bdcb42542b0a41622a7e0fda4e9287b97190356907c752beba7e43fba", func := "rosetta/rosettalaw02.PositionIndents", spec := "positionIndents", inPlace := ["internal/bytealg.IndexByteString", "internal/bytealg.IndexString"], unfollowed := true, recurses := true, named := ["unicode/utf8.first", "unicode/utf8.acceptRanges", "internal/bytealg.MaxLen"], apart := false, laid := [("unicode/utf8.acceptRanges", laid_unicode_utf8_acceptRanges), ("unicode/utf8.first", laid_unicode_utf8_first)] }
def PositionIndentsSaid : Prop := positionIndentsRow.holds Tryd.pinned (OpenSpec.ofChange positionIndentsSpec)

/-- ITS FALSE NEIGHBOUR: 'it returns false'. Refute it at one input. -/
def positionIndentsWrong : ChangeSpec := { name := "positionIndents", fn := fun _ => fun
  | [d] => { results := [.lit (.bool false)], args := [d] }
  | _ => none }
def PositionIndentsWrongFalsely : Prop := positionIndentsRow.holds Tryd.pinned (OpenSpec.ofChange positionIndentsWrong)

/-- 'rosettalaw02.PositionZero': WHATEVER THE INPUT: true; the input reads as it did. -/
def positionZeroSpec : ChangeSpec := { name := "positionZero", fn := fun _ => fun
  | [d] => { results := [.lit (.bool true)], args := [d] }
  | _ => none }
def positionZeroRow : OpenClaim := { program := "ytcjhipcjhgicoaadoor", sum := "dbdb9d3bdcb42542b0a41622a7e0fda4e9287b97190356907c752beba7e43fba", func := "rosetta/rosettalaw02.PositionZero", spec := "positionZero", inPlace := ["internal/bytealg.IndexByteString", "internal/bytealg.IndexString"], unfollowed := true, recurses := true, named := ["unicode/utf8.first", "unicode/utf8.acceptRanges", "internal/bytealg.MaxLen"], apart := false, laid := [("unicode/utf8.acceptRanges", laid_unicode_utf8_acceptRanges), ("unicode/utf8.first", laid_unicode_utf8_first)] }
def PositionZeroSaid : Prop := positionZeroRow.holds Tryd.pinned (OpenSpec.ofChange positionZeroSpec)

/-- ITS FALSE NEIGHBOUR: 'it returns false'. Refute it at one input. -/
def positionZeroWrong : ChangeSpec := { name := "positionZero", fn := fun _ => fun
  | [d] => { results := [.lit (.bool false)], args := [d] }
  | _ => none }
def PositionZeroWrongFalsely : Prop := positionZeroRow.holds Tryd.pinned (OpenSpec.ofChange positionZeroWrong)

/-- 'rosettalaw02.PositionAdds': WHATEVER THE INPUT: true; the input reads as it did. -/
def positionAddsSpec : ChangeSpec := { name := "positionAdds", fn := fun _ => fun
  | [d1, d2] => { results := [.lit (.bool true)], args := [d1, d2] }
  | _ => none }
def positionAddsRow : OpenClaim := { program := "ytcjhipcjhgicoaadoor", sum := "dbdb9d3bdcb42542b0a41622a7e0fda4e9287b97190356907c752beba7e43fba", func := "rosetta/rosettalaw02.PositionAdds", spec := "positionAdds", inPlace := ["internal/bytealg.IndexByteString", "internal/bytealg.IndexString"], unfollowed := true, recurses := true, named := ["unicode/utf8.first", "unicode/utf8.acceptRanges", "internal/bytealg.MaxLen"], apart := false, laid := [("unicode/utf8.acceptRanges", laid_unicode_utf8_acceptRanges), ("unicode/utf8.first", laid_unicode_utf8_first)] }
def PositionAddsSaid : Prop := positionAddsRow.holds Tryd.pinned (OpenSpec.ofChange positionAddsSpec)

/-- ITS FALSE NEIGHBOUR: 'it returns false'. Refute it at one input. -/
def positionAddsWrong : ChangeSpec := { name := "positionAdds", fn := fun _ => fun
  | [d1, d2] => { results := [.lit (.bool false)], args := [d1, d2] }
  | _ => none }
def PositionAddsWrongFalsely : Prop := positionAddsRow.holds Tryd.pinned (OpenSpec.ofChange positionAddsWrong)

/- THE SECOND FORM. 'bulk': how many values and letters a reading holds, each counted each time it is reached (what is shared counts as often as it is met; a slice's spare places count too). A statement '..UptoSaid' is the law's where the arguments, and the package variables that the reading takes, are together of bulk at most 1048576: NARROWER than '..Said'. Prove '..Said' where nothing that the law and all that it calls make is longer than what came in: it says more and counts as full. Else prove '..UptoSaid'. A law counts once. -/
mutual
def uptoBulk {H : Type} : DataW H → Nat
  | .lit (.string bytes) => bytes.length + 1
  | .lit _ => 1
  | .nil => 1
  | .ptr d => uptoBulk d + 1
  | .slice elems spare => uptoBulkAll elems + uptoBulkAll spare + 1
  | .agg parts => uptoBulkAll parts + 1
  | .iface _ d => uptoBulk d + 1
  | .map entries => uptoBulkEntries entries + 1
  | .held _ => 1
def uptoBulkAll {H : Type} : List (DataW H) → Nat
  | [] => 0
  | d :: r => uptoBulk d + uptoBulkAll r
def uptoBulkEntries {H : Type} : List (Lit × DataW H) → Nat
  | [] => 0
  | x :: r => uptoBulkEntry x + uptoBulkEntries r
def uptoBulkEntry {H : Type} : Lit × DataW H → Nat
  | (.string bytes, d) => bytes.length + uptoBulk d + 1
  | (_, d) => uptoBulk d + 1
 end
def uptoSmall : (H : Type) → List (DataW H) → Bool := fun _ ds => decide (uptoBulkAll ds ≤ 1048576)
def OpenSpec.upto (s : _root_.Go.ChangeSpec) : _root_.Go.OpenSpec := { _root_.Go.OpenSpec.ofChange s with cond := some uptoSmall }

/-- 'rosettalaw02.PositionFinds', WHERE WHAT IT READS IS OF BULK AT MOST 1048576: true; the input reads as it did. -/
def positionFindsUptoRow : OpenClaim := { program := "ytcjhipcjhgicoaadoor", sum := "dbdb9d3bdcb42542b0a41622a7e0fda4e9287b97190356907c752beba7e43fba", func := "rosetta/rosettalaw02.PositionFinds", spec := "positionFinds", inPlace := ["internal/bytealg.IndexByteString", "internal/bytealg.IndexString"], unfollowed := true, recurses := true, named := ["unicode/utf8.first", "unicode/utf8.acceptRanges", "internal/bytealg.MaxLen"], apart := false, laid := [("unicode/utf8.acceptRanges", laid_unicode_utf8_acceptRanges), ("unicode/utf8.first", laid_unicode_utf8_first)], narrowed := true }
def PositionFindsUptoSaid : Prop := positionFindsUptoRow.holds Tryd.pinned (OpenSpec.upto positionFindsSpec)

/-- 'rosettalaw02.PositionReturns', WHERE WHAT IT READS IS OF BULK AT MOST 1048576: true; the input reads as it did. -/
def positionReturnsUptoRow : OpenClaim := { program := "ytcjhipcjhgicoaadoor", sum := "dbdb9d3bdcb42542b0a41622a7e0fda4e9287b97190356907c752beba7e43fba", func := "rosetta/rosettalaw02.PositionReturns", spec := "positionReturns", inPlace := ["internal/bytealg.IndexByteString", "internal/bytealg.IndexString"], unfollowed := true, recurses := true, named := ["unicode/utf8.first", "unicode/utf8.acceptRanges", "internal/bytealg.MaxLen"], apart := false, laid := [("unicode/utf8.acceptRanges", laid_unicode_utf8_acceptRanges), ("unicode/utf8.first", laid_unicode_utf8_first)], narrowed := true }
def PositionReturnsUptoSaid : Prop := positionReturnsUptoRow.holds Tryd.pinned (OpenSpec.upto positionReturnsSpec)

/-- 'rosettalaw02.PositionBack', WHERE WHAT IT READS IS OF BULK AT MOST 1048576: true; the input reads as it did. -/
def positionBackUptoRow : OpenClaim := { program := "ytcjhipcjhgicoaadoor", sum := "dbdb9d3bdcb42542b0a41622a7e0fda4e9287b97190356907c752beba7e43fba", func := "rosetta/rosettalaw02.PositionBack", spec := "positionBack", inPlace := ["internal/bytealg.IndexByteString", "internal/bytealg.IndexString"], unfollowed := true, recurses := true, named := ["unicode/utf8.first", "unicode/utf8.acceptRanges", "internal/bytealg.MaxLen"], apart := false, laid := [("unicode/utf8.acceptRanges", laid_unicode_utf8_acceptRanges), ("unicode/utf8.first", laid_unicode_utf8_first)], narrowed := true }
def PositionBackUptoSaid : Prop := positionBackUptoRow.holds Tryd.pinned (OpenSpec.upto positionBackSpec)

/-- 'rosettalaw02.PositionJoins', WHERE WHAT IT READS IS OF BULK AT MOST 1048576: true; the input reads as it did. -/
def positionJoinsUptoRow : OpenClaim := { program := "ytcjhipcjhgicoaadoor", sum := "dbdb9d3bdcb42542b0a41622a7e0fda4e9287b97190356907c752beba7e43fba", func := "rosetta/rosettalaw02.PositionJoins", spec := "positionJoins", inPlace := ["internal/bytealg.IndexByteString", "internal/bytealg.IndexString"], unfollowed := true, recurses := true, named := ["unicode/utf8.first", "unicode/utf8.acceptRanges", "internal/bytealg.MaxLen"], apart := false, laid := [("unicode/utf8.acceptRanges", laid_unicode_utf8_acceptRanges), ("unicode/utf8.first", laid_unicode_utf8_first)], narrowed := true }
def PositionJoinsUptoSaid : Prop := positionJoinsUptoRow.holds Tryd.pinned (OpenSpec.upto positionJoinsSpec)

/-- 'rosettalaw02.PositionIndents', WHERE WHAT IT READS IS OF BULK AT MOST 1048576: true; the input reads as it did. -/
def positionIndentsUptoRow : OpenClaim := { program := "ytcjhipcjhgicoaadoor", sum := "dbdb9d3bdcb42542b0a41622a7e0fda4e9287b97190356907c752beba7e43fba", func := "rosetta/rosettalaw02.PositionIndents", spec := "positionIndents", inPlace := ["internal/bytealg.IndexByteString", "internal/bytealg.IndexString"], unfollowed := true, recurses := true, named := ["unicode/utf8.first", "unicode/utf8.acceptRanges", "internal/bytealg.MaxLen"], apart := false, laid := [("unicode/utf8.acceptRanges", laid_unicode_utf8_acceptRanges), ("unicode/utf8.first", laid_unicode_utf8_first)], narrowed := true }
def PositionIndentsUptoSaid : Prop := positionIndentsUptoRow.holds Tryd.pinned (OpenSpec.upto positionIndentsSpec)

/-- 'rosettalaw02.PositionZero', WHERE WHAT IT READS IS OF BULK AT MOST 1048576: true; the input reads as it did. -/
def positionZeroUptoRow : OpenClaim := { program := "ytcjhipcjhgicoaadoor", sum := "dbdb9d3bdcb42542b0a41622a7e0fda4e9287b97190356907c752beba7e43fba", func := "rosetta/rosettalaw02.PositionZero", spec := "positionZero", inPlace := ["internal/bytealg.IndexByteString", "internal/bytealg.IndexString"], unfollowed := true, recurses := true, named := ["unicode/utf8.first", "unicode/utf8.acceptRanges", "internal/bytealg.MaxLen"], apart := false, laid := [("unicode/utf8.acceptRanges", laid_unicode_utf8_acceptRanges), ("unicode/utf8.first", laid_unicode_utf8_first)], narrowed := true }
def PositionZeroUptoSaid : Prop := positionZeroUptoRow.holds Tryd.pinned (OpenSpec.upto positionZeroSpec)

/-- 'rosettalaw02.PositionAdds', WHERE WHAT IT READS IS OF BULK AT MOST 1048576: true; the input reads as it did. -/
def positionAddsUptoRow : OpenClaim := { program := "ytcjhipcjhgicoaadoor", sum := "dbdb9d3bdcb42542b0a41622a7e0fda4e9287b97190356907c752beba7e43fba", func := "rosetta/rosettalaw02.PositionAdds", spec := "positionAdds", inPlace := ["internal/bytealg.IndexByteString", "internal/bytealg.IndexString"], unfollowed := true, recurses := true, named := ["unicode/utf8.first", "unicode/utf8.acceptRanges", "internal/bytealg.MaxLen"], apart := false, laid := [("unicode/utf8.acceptRanges", laid_unicode_utf8_acceptRanges), ("unicode/utf8.first", laid_unicode_utf8_first)], narrowed := true }
def PositionAddsUptoSaid : Prop := positionAddsUptoRow.holds Tryd.pinned (OpenSpec.upto positionAddsSpec)

end Rows
end Go.Proofs.YtcjhipcjhgicoaaDoor
