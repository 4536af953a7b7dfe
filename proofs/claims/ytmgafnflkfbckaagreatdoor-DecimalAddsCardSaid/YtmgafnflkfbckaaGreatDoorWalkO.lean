/- The contract of Of. -/
import Derived.Test.YtmgafnflkfbckaaGreatDoorWalkJ
namespace Go.Proofs.YtmgafnflkfbckaaGreatDoor
open Go.RowKit Go.Lib

/-- The exponent that Of takes. -/
def clampE (e : Int) : Int := if e < -1099511627776 then -1099511627776 else if 1099511627776 < e then 1099511627776 else e
/-- What Of answers. -/
def ofV (l : List UInt8) (e : Int) : Value := if Dc.intB l = true then resV (Dc.norm (l.head? == some 45) (Dc.vals (Dc.unsign l)) (clampE e)) else .tuple #[.string ⟨#[]⟩, .int .i64 3]
end Go.Proofs.YtmgafnflkfbckaaGreatDoor
