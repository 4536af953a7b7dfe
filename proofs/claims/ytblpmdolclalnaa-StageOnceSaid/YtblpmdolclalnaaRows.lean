/-
  No cell of these rows narrows 'for every input' (looked for: loops, veiled, ifaces, maps, wideKeys, modest, calm, conditions, laid).
  DERIVED. THE GIVEN ROWS OF THIS SEAT. 6 by the template 'for every input the law returns true; each argument reads behind the call as it read before'; 0 by the template 'total and deterministic' (their statements: YtblpmdolclalnaaTotals.lean).
  GIVEN WITH THE SEED: the statements are not yours to turn. If you find one false, say at which input.
  Laid BY PROGRAM, IN A SANDBOX (cutbox-rows.mjs): the forced cells as the released guide's own fill.sh prints them over the translation 779f66940429bc6e… (all of the seat's roots in one cut). By AI agents, Wed Nov 11 2026. No macro, syntax, notation, axiom, sorry.
-/
import Derived.Test.YtblpmdolclalnaaChecked
import GoSem.Claim
import GoSem.ClaimJoined
import GoSem.ClaimMapViews
import Derived.JoinedTies
import Derived.KernelRfl
namespace Go.Proofs.Ytblpmdolclalnaa
/- THE CELL 'sum', in the pinned program and in every row, IS THE sha256 OF THE DUMP (.gsa) THAT YtblpmdolclalnaaProg.lean LOADS. Nothing in Lean hashes anything: it is a label: what it is worth is what the hold of that sum in a sandbox is worth. -/
noncomputable def Try.pinned : Pinned := { name := "ytblpmdolclalnaa", sum := "779f66940429bc6e2003750a55dbc90a01aea3f2c0d174b276998c063d902f85", checked := Try.checked }
namespace Rows
def none {H : Type} : Left H := { results := [], args := [] }

/-- 'rosettalaw56.StageMaps': WHATEVER THE INPUT: true; the input reads as it did. -/
def stageMapsSpec : ChangeSpec := { name := "stageMaps", fn := fun _ => fun
  | [d1, d2, d3] => { results := [.lit (.bool true)], args := [d1, d2, d3] }
  | _ => none }
def stageMapsRow : OpenClaim := { program := "ytblpmdolclalnaa", sum := "779f66940429bc6e2003750a55dbc90a01aea3f2c0d174b276998c063d902f85", func := "rosetta/rosettalaw56.StageMaps", spec := "stageMaps", inPlace := ["(*sync.WaitGroup).Add", "internal/race.ReleaseMerge", "internal/race.Disable", "internal/race.Enable", "internal/synctest.IsInBubble", "internal/synctest.Associate[sync.WaitGroup]", "sync.fatal", "sync/atomic.OrUint64", "sync/atomic.AddUint64", "internal/race.Read", "sync/atomic.LoadUint64", "sync/atomic.StoreUint64", "internal/synctest.Disassociate[sync.WaitGroup]", "sync.runtime_Semrelease", "(*sync.WaitGroup).Done", "(*sync.WaitGroup).Wait", "internal/race.Acquire", "internal/synctest.IsAssociated[sync.WaitGroup]", "sync/atomic.CompareAndSwapUint64", "internal/race.Write", "sync.runtime_SemacquireWaitGroup"], unfollowed := true, recurses := true, leaving := true, apart := false }
def StageMapsSaid : Prop := stageMapsRow.holds Try.pinned (OpenSpec.ofChange stageMapsSpec)

/-- ITS FALSE NEIGHBOUR: 'it returns false'. Refute it at one input. -/
def stageMapsWrong : ChangeSpec := { name := "stageMaps", fn := fun _ => fun
  | [d1, d2, d3] => { results := [.lit (.bool false)], args := [d1, d2, d3] }
  | _ => none }
def StageMapsWrongFalsely : Prop := stageMapsRow.holds Try.pinned (OpenSpec.ofChange stageMapsWrong)

/-- 'rosettalaw56.StageChains': WHATEVER THE INPUT: true; the input reads as it did. -/
def stageChainsSpec : ChangeSpec := { name := "stageChains", fn := fun _ => fun
  | [d1, d2] => { results := [.lit (.bool true)], args := [d1, d2] }
  | _ => none }
def stageChainsRow : OpenClaim := { program := "ytblpmdolclalnaa", sum := "779f66940429bc6e2003750a55dbc90a01aea3f2c0d174b276998c063d902f85", func := "rosetta/rosettalaw56.StageChains", spec := "stageChains", inPlace := ["(*sync.WaitGroup).Add", "internal/race.ReleaseMerge", "internal/race.Disable", "internal/race.Enable", "internal/synctest.IsInBubble", "internal/synctest.Associate[sync.WaitGroup]", "sync.fatal", "sync/atomic.OrUint64", "sync/atomic.AddUint64", "internal/race.Read", "sync/atomic.LoadUint64", "sync/atomic.StoreUint64", "internal/synctest.Disassociate[sync.WaitGroup]", "sync.runtime_Semrelease", "(*sync.WaitGroup).Done", "(*sync.WaitGroup).Wait", "internal/race.Acquire", "internal/synctest.IsAssociated[sync.WaitGroup]", "sync/atomic.CompareAndSwapUint64", "internal/race.Write", "sync.runtime_SemacquireWaitGroup"], unfollowed := true, recurses := true, leaving := true, apart := false }
def StageChainsSaid : Prop := stageChainsRow.holds Try.pinned (OpenSpec.ofChange stageChainsSpec)

/-- ITS FALSE NEIGHBOUR: 'it returns false'. Refute it at one input. -/
def stageChainsWrong : ChangeSpec := { name := "stageChains", fn := fun _ => fun
  | [d1, d2] => { results := [.lit (.bool false)], args := [d1, d2] }
  | _ => none }
def StageChainsWrongFalsely : Prop := stageChainsRow.holds Try.pinned (OpenSpec.ofChange stageChainsWrong)

/-- 'rosettalaw56.StageOrder': WHATEVER THE INPUT: true; the input reads as it did. -/
def stageOrderSpec : ChangeSpec := { name := "stageOrder", fn := fun _ => fun
  | [d1, d2] => { results := [.lit (.bool true)], args := [d1, d2] }
  | _ => none }
def stageOrderRow : OpenClaim := { program := "ytblpmdolclalnaa", sum := "779f66940429bc6e2003750a55dbc90a01aea3f2c0d174b276998c063d902f85", func := "rosetta/rosettalaw56.StageOrder", spec := "stageOrder", inPlace := ["(*sync.WaitGroup).Add", "internal/race.ReleaseMerge", "internal/race.Disable", "internal/race.Enable", "internal/synctest.IsInBubble", "internal/synctest.Associate[sync.WaitGroup]", "sync.fatal", "sync/atomic.OrUint64", "sync/atomic.AddUint64", "internal/race.Read", "sync/atomic.LoadUint64", "sync/atomic.StoreUint64", "internal/synctest.Disassociate[sync.WaitGroup]", "sync.runtime_Semrelease", "(*sync.WaitGroup).Done", "(*sync.WaitGroup).Wait", "internal/race.Acquire", "internal/synctest.IsAssociated[sync.WaitGroup]", "sync/atomic.CompareAndSwapUint64", "internal/race.Write", "sync.runtime_SemacquireWaitGroup"], unfollowed := true, recurses := true, leaving := true, apart := false }
def StageOrderSaid : Prop := stageOrderRow.holds Try.pinned (OpenSpec.ofChange stageOrderSpec)

/-- ITS FALSE NEIGHBOUR: 'it returns false'. Refute it at one input. -/
def stageOrderWrong : ChangeSpec := { name := "stageOrder", fn := fun _ => fun
  | [d1, d2] => { results := [.lit (.bool false)], args := [d1, d2] }
  | _ => none }
def StageOrderWrongFalsely : Prop := stageOrderRow.holds Try.pinned (OpenSpec.ofChange stageOrderWrong)

/-- 'rosettalaw56.StageSplits': WHATEVER THE INPUT: true; the input reads as it did. -/
def stageSplitsSpec : ChangeSpec := { name := "stageSplits", fn := fun _ => fun
  | [d1, d2, d3] => { results := [.lit (.bool true)], args := [d1, d2, d3] }
  | _ => none }
def stageSplitsRow : OpenClaim := { program := "ytblpmdolclalnaa", sum := "779f66940429bc6e2003750a55dbc90a01aea3f2c0d174b276998c063d902f85", func := "rosetta/rosettalaw56.StageSplits", spec := "stageSplits", inPlace := ["(*sync.WaitGroup).Add", "internal/race.ReleaseMerge", "internal/race.Disable", "internal/race.Enable", "internal/synctest.IsInBubble", "internal/synctest.Associate[sync.WaitGroup]", "sync.fatal", "sync/atomic.OrUint64", "sync/atomic.AddUint64", "internal/race.Read", "sync/atomic.LoadUint64", "sync/atomic.StoreUint64", "internal/synctest.Disassociate[sync.WaitGroup]", "sync.runtime_Semrelease", "(*sync.WaitGroup).Done", "(*sync.WaitGroup).Wait", "internal/race.Acquire", "internal/synctest.IsAssociated[sync.WaitGroup]", "sync/atomic.CompareAndSwapUint64", "internal/race.Write", "sync.runtime_SemacquireWaitGroup"], unfollowed := true, recurses := true, leaving := true, apart := false }
def StageSplitsSaid : Prop := stageSplitsRow.holds Try.pinned (OpenSpec.ofChange stageSplitsSpec)

/-- ITS FALSE NEIGHBOUR: 'it returns false'. Refute it at one input. -/
def stageSplitsWrong : ChangeSpec := { name := "stageSplits", fn := fun _ => fun
  | [d1, d2, d3] => { results := [.lit (.bool false)], args := [d1, d2, d3] }
  | _ => none }
def StageSplitsWrongFalsely : Prop := stageSplitsRow.holds Try.pinned (OpenSpec.ofChange stageSplitsWrong)

/-- 'rosettalaw56.StageNil': WHATEVER THE INPUT: true; the input reads as it did. -/
def stageNilSpec : ChangeSpec := { name := "stageNil", fn := fun _ => fun
  | [d1, d2] => { results := [.lit (.bool true)], args := [d1, d2] }
  | _ => none }
def stageNilRow : OpenClaim := { program := "ytblpmdolclalnaa", sum := "779f66940429bc6e2003750a55dbc90a01aea3f2c0d174b276998c063d902f85", func := "rosetta/rosettalaw56.StageNil", spec := "stageNil", inPlace := ["(*sync.WaitGroup).Add", "internal/race.ReleaseMerge", "internal/race.Disable", "internal/race.Enable", "internal/synctest.IsInBubble", "internal/synctest.Associate[sync.WaitGroup]", "sync.fatal", "sync/atomic.OrUint64", "sync/atomic.AddUint64", "internal/race.Read", "sync/atomic.LoadUint64", "sync/atomic.StoreUint64", "internal/synctest.Disassociate[sync.WaitGroup]", "sync.runtime_Semrelease", "(*sync.WaitGroup).Done", "(*sync.WaitGroup).Wait", "internal/race.Acquire", "internal/synctest.IsAssociated[sync.WaitGroup]", "sync/atomic.CompareAndSwapUint64", "internal/race.Write", "sync.runtime_SemacquireWaitGroup"], unfollowed := true, recurses := true, leaving := true, apart := false }
def StageNilSaid : Prop := stageNilRow.holds Try.pinned (OpenSpec.ofChange stageNilSpec)

/-- ITS FALSE NEIGHBOUR: 'it returns false'. Refute it at one input. -/
def stageNilWrong : ChangeSpec := { name := "stageNil", fn := fun _ => fun
  | [d1, d2] => { results := [.lit (.bool false)], args := [d1, d2] }
  | _ => none }
def StageNilWrongFalsely : Prop := stageNilRow.holds Try.pinned (OpenSpec.ofChange stageNilWrong)

/-- 'rosettalaw56.StageOnce': WHATEVER THE INPUT: true; the input reads as it did. -/
def stageOnceSpec : ChangeSpec := { name := "stageOnce", fn := fun _ => fun
  | [d1, d2] => { results := [.lit (.bool true)], args := [d1, d2] }
  | _ => none }
def stageOnceRow : OpenClaim := { program := "ytblpmdolclalnaa", sum := "779f66940429bc6e2003750a55dbc90a01aea3f2c0d174b276998c063d902f85", func := "rosetta/rosettalaw56.StageOnce", spec := "stageOnce", inPlace := ["sync/atomic.AddInt32", "sync/atomic.LoadInt32", "sync/atomic.CompareAndSwapInt32", "(*sync.WaitGroup).Add", "internal/race.ReleaseMerge", "internal/race.Disable", "internal/race.Enable", "internal/synctest.IsInBubble", "internal/synctest.Associate[sync.WaitGroup]", "sync.fatal", "sync/atomic.OrUint64", "sync/atomic.AddUint64", "internal/race.Read", "sync/atomic.LoadUint64", "sync/atomic.StoreUint64", "internal/synctest.Disassociate[sync.WaitGroup]", "sync.runtime_Semrelease", "(*sync.WaitGroup).Done", "(*sync.WaitGroup).Wait", "internal/race.Acquire", "internal/synctest.IsAssociated[sync.WaitGroup]", "sync/atomic.CompareAndSwapUint64", "internal/race.Write", "sync.runtime_SemacquireWaitGroup"], unfollowed := true, recurses := true, leaving := true, apart := false }
def StageOnceSaid : Prop := stageOnceRow.holds Try.pinned (OpenSpec.ofChange stageOnceSpec)

/-- ITS FALSE NEIGHBOUR: 'it returns false'. Refute it at one input. -/
def stageOnceWrong : ChangeSpec := { name := "stageOnce", fn := fun _ => fun
  | [d1, d2] => { results := [.lit (.bool false)], args := [d1, d2] }
  | _ => none }
def StageOnceWrongFalsely : Prop := stageOnceRow.holds Try.pinned (OpenSpec.ofChange stageOnceWrong)

/- THE SECOND FORM. 'bulk': how many values and letters a reading holds, each counted each time it is reached (what is shared counts as often as it is met; a slice's spare places count too). A statement '..UptoSaid' is the law's where the arguments, and the package variables that the reading takes, are together of bulk at most 1048576: NARROWER than '..Said'. Prove '..Said' where nothing that the law and all that it calls make is longer than what came in: it says more and counts as full. Else prove '..UptoSaid'. A law counts once. -/
mutual
def uptoBulk {H : Type} : DataW H → Nat
  | .lit (.string bytes) => bytes.length + 1
  | .lit _ => 1
  | .nil => 1
  | .ptr d => uptoBulk d + 1
  | .slice elems spare => uptoBulkAll elems + uptoBulkAll spare + 1
  | .agg parts => uptoBulkAll parts + 1
  | .iface _ d => uptoBulk d + 1
  | .map entries => uptoBulkEntries entries + 1
  | .held _ => 1
def uptoBulkAll {H : Type} : List (DataW H) → Nat
  | [] => 0
  | d :: r => uptoBulk d + uptoBulkAll r
def uptoBulkEntries {H : Type} : List (Lit × DataW H) → Nat
  | [] => 0
  | x :: r => uptoBulkEntry x + uptoBulkEntries r
def uptoBulkEntry {H : Type} : Lit × DataW H → Nat
  | (.string bytes, d) => bytes.length + uptoBulk d + 1
  | (_, d) => uptoBulk d + 1
 end
def uptoSmall : (H : Type) → List (DataW H) → Bool := fun _ ds => decide (uptoBulkAll ds ≤ 1048576)
def OpenSpec.upto (s : _root_.Go.ChangeSpec) : _root_.Go.OpenSpec := { _root_.Go.OpenSpec.ofChange s with cond := some uptoSmall }

/-- 'rosettalaw56.StageMaps', WHERE WHAT IT READS IS OF BULK AT MOST 1048576: true; the input reads as it did. -/
def stageMapsUptoRow : OpenClaim := { program := "ytblpmdolclalnaa", sum := "779f66940429bc6e2003750a55dbc90a01aea3f2c0d174b276998c063d902f85", func := "rosetta/rosettalaw56.StageMaps", spec := "stageMaps", inPlace := ["(*sync.WaitGroup).Add", "internal/race.ReleaseMerge", "internal/race.Disable", "internal/race.Enable", "internal/synctest.IsInBubble", "internal/synctest.Associate[sync.WaitGroup]", "sync.fatal", "sync/atomic.OrUint64", "sync/atomic.AddUint64", "internal/race.Read", "sync/atomic.LoadUint64", "sync/atomic.StoreUint64", "internal/synctest.Disassociate[sync.WaitGroup]", "sync.runtime_Semrelease", "(*sync.WaitGroup).Done", "(*sync.WaitGroup).Wait", "internal/race.Acquire", "internal/synctest.IsAssociated[sync.WaitGroup]", "sync/atomic.CompareAndSwapUint64", "internal/race.Write", "sync.runtime_SemacquireWaitGroup"], unfollowed := true, recurses := true, leaving := true, apart := false, narrowed := true }
def StageMapsUptoSaid : Prop := stageMapsUptoRow.holds Try.pinned (OpenSpec.upto stageMapsSpec)

/-- 'rosettalaw56.StageChains', WHERE WHAT IT READS IS OF BULK AT MOST 1048576: true; the input reads as it did. -/
def stageChainsUptoRow : OpenClaim := { program := "ytblpmdolclalnaa", sum := "779f66940429bc6e2003750a55dbc90a01aea3f2c0d174b276998c063d902f85", func := "rosetta/rosettalaw56.StageChains", spec := "stageChains", inPlace := ["(*sync.WaitGroup).Add", "internal/race.ReleaseMerge", "internal/race.Disable", "internal/race.Enable", "internal/synctest.IsInBubble", "internal/synctest.Associate[sync.WaitGroup]", "sync.fatal", "sync/atomic.OrUint64", "sync/atomic.AddUint64", "internal/race.Read", "sync/atomic.LoadUint64", "sync/atomic.StoreUint64", "internal/synctest.Disassociate[sync.WaitGroup]", "sync.runtime_Semrelease", "(*sync.WaitGroup).Done", "(*sync.WaitGroup).Wait", "internal/race.Acquire", "internal/synctest.IsAssociated[sync.WaitGroup]", "sync/atomic.CompareAndSwapUint64", "internal/race.Write", "sync.runtime_SemacquireWaitGroup"], unfollowed := true, recurses := true, leaving := true, apart := false, narrowed := true }
def StageChainsUptoSaid : Prop := stageChainsUptoRow.holds Try.pinned (OpenSpec.upto stageChainsSpec)

/-- 'rosettalaw56.StageOrder', WHERE WHAT IT READS IS OF BULK AT MOST 1048576: true; the input reads as it did. -/
def stageOrderUptoRow : OpenClaim := { program := "ytblpmdolclalnaa", sum := "779f66940429bc6e2003750a55dbc90a01aea3f2c0d174b276998c063d902f85", func := "rosetta/rosettalaw56.StageOrder", spec := "stageOrder", inPlace := ["(*sync.WaitGroup).Add", "internal/race.ReleaseMerge", "internal/race.Disable", "internal/race.Enable", "internal/synctest.IsInBubble", "internal/synctest.Associate[sync.WaitGroup]", "sync.fatal", "sync/atomic.OrUint64", "sync/atomic.AddUint64", "internal/race.Read", "sync/atomic.LoadUint64", "sync/atomic.StoreUint64", "internal/synctest.Disassociate[sync.WaitGroup]", "sync.runtime_Semrelease", "(*sync.WaitGroup).Done", "(*sync.WaitGroup).Wait", "internal/race.Acquire", "internal/synctest.IsAssociated[sync.WaitGroup]", "sync/atomic.CompareAndSwapUint64", "internal/race.Write", "sync.runtime_SemacquireWaitGroup"], unfollowed := true, recurses := true, leaving := true, apart := false, narrowed := true }
def StageOrderUptoSaid : Prop := stageOrderUptoRow.holds Try.pinned (OpenSpec.upto stageOrderSpec)

/-- 'rosettalaw56.StageSplits', WHERE WHAT IT READS IS OF BULK AT MOST 1048576: true; the input reads as it did. -/
def stageSplitsUptoRow : OpenClaim := { program := "ytblpmdolclalnaa", sum := "779f66940429bc6e2003750a55dbc90a01aea3f2c0d174b276998c063d902f85", func := "rosetta/rosettalaw56.StageSplits", spec := "stageSplits", inPlace := ["(*sync.WaitGroup).Add", "internal/race.ReleaseMerge", "internal/race.Disable", "internal/race.Enable", "internal/synctest.IsInBubble", "internal/synctest.Associate[sync.WaitGroup]", "sync.fatal", "sync/atomic.OrUint64", "sync/atomic.AddUint64", "internal/race.Read", "sync/atomic.LoadUint64", "sync/atomic.StoreUint64", "internal/synctest.Disassociate[sync.WaitGroup]", "sync.runtime_Semrelease", "(*sync.WaitGroup).Done", "(*sync.WaitGroup).Wait", "internal/race.Acquire", "internal/synctest.IsAssociated[sync.WaitGroup]", "sync/atomic.CompareAndSwapUint64", "internal/race.Write", "sync.runtime_SemacquireWaitGroup"], unfollowed := true, recurses := true, leaving := true, apart := false, narrowed := true }
def StageSplitsUptoSaid : Prop := stageSplitsUptoRow.holds Try.pinned (OpenSpec.upto stageSplitsSpec)

/-- 'rosettalaw56.StageNil', WHERE WHAT IT READS IS OF BULK AT MOST 1048576: true; the input reads as it did. -/
def stageNilUptoRow : OpenClaim := { program := "ytblpmdolclalnaa", sum := "779f66940429bc6e2003750a55dbc90a01aea3f2c0d174b276998c063d902f85", func := "rosetta/rosettalaw56.StageNil", spec := "stageNil", inPlace := ["(*sync.WaitGroup).Add", "internal/race.ReleaseMerge", "internal/race.Disable", "internal/race.Enable", "internal/synctest.IsInBubble", "internal/synctest.Associate[sync.WaitGroup]", "sync.fatal", "sync/atomic.OrUint64", "sync/atomic.AddUint64", "internal/race.Read", "sync/atomic.LoadUint64", "sync/atomic.StoreUint64", "internal/synctest.Disassociate[sync.WaitGroup]", "sync.runtime_Semrelease", "(*sync.WaitGroup).Done", "(*sync.WaitGroup).Wait", "internal/race.Acquire", "internal/synctest.IsAssociated[sync.WaitGroup]", "sync/atomic.CompareAndSwapUint64", "internal/race.Write", "sync.runtime_SemacquireWaitGroup"], unfollowed := true, recurses := true, leaving := true, apart := false, narrowed := true }
def StageNilUptoSaid : Prop := stageNilUptoRow.holds Try.pinned (OpenSpec.upto stageNilSpec)

/-- 'rosettalaw56.StageOnce', WHERE WHAT IT READS IS OF BULK AT MOST 1048576: true; the input reads as it did. -/
def stageOnceUptoRow : OpenClaim := { program := "ytblpmdolclalnaa", sum := "779f66940429bc6e2003750a55dbc90a01aea3f2c0d174b276998c063d902f85", func := "rosetta/rosettalaw56.StageOnce", spec := "stageOnce", inPlace := ["sync/atomic.AddInt32", "sync/atomic.LoadInt32", "sync/atomic.CompareAndSwapInt32", "(*sync.WaitGroup).Add", "internal/race.ReleaseMerge", "internal/race.Disable", "internal/race.Enable", "internal/synctest.IsInBubble", "internal/synctest.Associate[sync.WaitGroup]", "sync.fatal", "sync/atomic.OrUint64", "sync/atomic.AddUint64", "internal/race.Read", "sync/atomic.LoadUint64", "sync/atomic.StoreUint64", "internal/synctest.Disassociate[sync.WaitGroup]", "sync.runtime_Semrelease", "(*sync.WaitGroup).Done", "(*sync.WaitGroup).Wait", "internal/race.Acquire", "internal/synctest.IsAssociated[sync.WaitGroup]", "sync/atomic.CompareAndSwapUint64", "internal/race.Write", "sync.runtime_SemacquireWaitGroup"], unfollowed := true, recurses := true, leaving := true, apart := false, narrowed := true }
def StageOnceUptoSaid : Prop := stageOnceUptoRow.holds Try.pinned (OpenSpec.upto stageOnceSpec)

end Rows
end Go.Proofs.Ytblpmdolclalnaa
