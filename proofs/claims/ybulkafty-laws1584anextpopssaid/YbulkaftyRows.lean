/-
  No cell of these rows narrows 'for every input' (looked for: loops, veiled, ifaces, maps, wideKeys, modest, calm, conditions, laid).
  DERIVED. THE GIVEN ROWS OF THIS SEAT. 5 by the template 'for every input the law returns true; each argument reads behind the call as it read before'; 0 by the template 'total and deterministic' (their statements: YbulkaftyTotals.lean).
  GIVEN WITH THE SEED: the statements are not yours to turn. If you find one false, say at which input.
  Laid BY PROGRAM, IN A SANDBOX (cutbox-rows.mjs): the forced cells as the released guide's own fill.sh prints them over the translation ea3e50b28e56bf48… (all of the seat's roots in one cut). By AI agents, Wed Nov 11 2026. No macro, syntax, notation, axiom, sorry.
-/
import Derived.Test.YbulkaftyChecked
import GoSem.Claim
import GoSem.ClaimJoined
import GoSem.ClaimMapViews
import Derived.JoinedTies
import Derived.KernelRfl
namespace Go.Proofs.Ybulkafty
/- THE CELL 'sum', in the pinned program and in every row, IS THE sha256 OF THE DUMP (.gsa) THAT YbulkaftyProg.lean LOADS. Nothing in Lean hashes anything: it is a label: what it is worth is what the hold of that sum in a sandbox is worth. -/
noncomputable def Yba.pinned : Pinned := { name := "ybulkafty", sum := "ea3e50b28e56bf488b0386ffee1d4fa98b9d0cf64ab5d4e17ff7502ddb9676cd", checked := Yba.checked }
namespace Rows
def none {H : Type} : Left H := { results := [], args := [] }

/-- 'bdelloid.LawS1584ANextPops': WHATEVER THE INPUT: true; the input reads as it did. -/
def lawS1584ANextPopsSpec : ChangeSpec := { name := "lawS1584ANextPops", fn := fun _ => fun
  | [d1, d2, d3] => { results := [.lit (.bool true)], args := [d1, d2, d3] }
  | _ => none }
def lawS1584ANextPopsRow : OpenClaim := { program := "ybulkafty", sum := "ea3e50b28e56bf488b0386ffee1d4fa98b9d0cf64ab5d4e17ff7502ddb9676cd", func := "example.com/bdelloid/bdelloid.LawS1584ANextPops", spec := "lawS1584ANextPops", apart := false }
def LawS1584ANextPopsSaid : Prop := lawS1584ANextPopsRow.holds Yba.pinned (OpenSpec.ofChange lawS1584ANextPopsSpec)

/-- ITS FALSE NEIGHBOUR: 'it returns false'. Refute it at one input. -/
def lawS1584ANextPopsWrong : ChangeSpec := { name := "lawS1584ANextPops", fn := fun _ => fun
  | [d1, d2, d3] => { results := [.lit (.bool false)], args := [d1, d2, d3] }
  | _ => none }
def LawS1584ANextPopsWrongFalsely : Prop := lawS1584ANextPopsRow.holds Yba.pinned (OpenSpec.ofChange lawS1584ANextPopsWrong)

/-- 'bdelloid.LawS1584BMoveLast': WHATEVER THE INPUT: true; the input reads as it did. -/
def lawS1584BMoveLastSpec : ChangeSpec := { name := "lawS1584BMoveLast", fn := fun _ => fun
  | [d1, d2] => { results := [.lit (.bool true)], args := [d1, d2] }
  | _ => none }
def lawS1584BMoveLastRow : OpenClaim := { program := "ybulkafty", sum := "ea3e50b28e56bf488b0386ffee1d4fa98b9d0cf64ab5d4e17ff7502ddb9676cd", func := "example.com/bdelloid/bdelloid.LawS1584BMoveLast", spec := "lawS1584BMoveLast", apart := false }
def LawS1584BMoveLastSaid : Prop := lawS1584BMoveLastRow.holds Yba.pinned (OpenSpec.ofChange lawS1584BMoveLastSpec)

/-- ITS FALSE NEIGHBOUR: 'it returns false'. Refute it at one input. -/
def lawS1584BMoveLastWrong : ChangeSpec := { name := "lawS1584BMoveLast", fn := fun _ => fun
  | [d1, d2] => { results := [.lit (.bool false)], args := [d1, d2] }
  | _ => none }
def LawS1584BMoveLastWrongFalsely : Prop := lawS1584BMoveLastRow.holds Yba.pinned (OpenSpec.ofChange lawS1584BMoveLastWrong)

/-- 'bdelloid.LawS1584BHoldsMoved': WHATEVER THE INPUT: true; the input reads as it did. -/
def lawS1584BHoldsMovedSpec : ChangeSpec := { name := "lawS1584BHoldsMoved", fn := fun _ => fun
  | [d1, d2] => { results := [.lit (.bool true)], args := [d1, d2] }
  | _ => none }
def lawS1584BHoldsMovedRow : OpenClaim := { program := "ybulkafty", sum := "ea3e50b28e56bf488b0386ffee1d4fa98b9d0cf64ab5d4e17ff7502ddb9676cd", func := "example.com/bdelloid/bdelloid.LawS1584BHoldsMoved", spec := "lawS1584BHoldsMoved", apart := false }
def LawS1584BHoldsMovedSaid : Prop := lawS1584BHoldsMovedRow.holds Yba.pinned (OpenSpec.ofChange lawS1584BHoldsMovedSpec)

/-- ITS FALSE NEIGHBOUR: 'it returns false'. Refute it at one input. -/
def lawS1584BHoldsMovedWrong : ChangeSpec := { name := "lawS1584BHoldsMoved", fn := fun _ => fun
  | [d1, d2] => { results := [.lit (.bool false)], args := [d1, d2] }
  | _ => none }
def LawS1584BHoldsMovedWrongFalsely : Prop := lawS1584BHoldsMovedRow.holds Yba.pinned (OpenSpec.ofChange lawS1584BHoldsMovedWrong)

/-- 'bdelloid.LawS1584CCount': WHATEVER THE INPUT: true; the input reads as it did. -/
def lawS1584CCountSpec : ChangeSpec := { name := "lawS1584CCount", fn := fun _ => fun
  | [d1, d2, d3] => { results := [.lit (.bool true)], args := [d1, d2, d3] }
  | _ => none }
def lawS1584CCountRow : OpenClaim := { program := "ybulkafty", sum := "ea3e50b28e56bf488b0386ffee1d4fa98b9d0cf64ab5d4e17ff7502ddb9676cd", func := "example.com/bdelloid/bdelloid.LawS1584CCount", spec := "lawS1584CCount", inPlace := ["sync/atomic.StoreUint64", "sync/atomic.LoadUint64", "(*sync.WaitGroup).Add", "internal/race.ReleaseMerge", "internal/race.Disable", "internal/race.Enable", "internal/synctest.IsInBubble", "internal/synctest.Associate[sync.WaitGroup]", "sync.fatal", "sync/atomic.OrUint64", "sync/atomic.AddUint64", "internal/race.Read", "internal/synctest.Disassociate[sync.WaitGroup]", "sync.runtime_Semrelease"], apart := false }
def LawS1584CCountSaid : Prop := lawS1584CCountRow.holds Yba.pinned (OpenSpec.ofChange lawS1584CCountSpec)

/-- ITS FALSE NEIGHBOUR: 'it returns false'. Refute it at one input. -/
def lawS1584CCountWrong : ChangeSpec := { name := "lawS1584CCount", fn := fun _ => fun
  | [d1, d2, d3] => { results := [.lit (.bool false)], args := [d1, d2, d3] }
  | _ => none }
def LawS1584CCountWrongFalsely : Prop := lawS1584CCountRow.holds Yba.pinned (OpenSpec.ofChange lawS1584CCountWrong)

/-- 'bdelloid.LawS1584CArmed': WHATEVER THE INPUT: true; the input reads as it did. -/
def lawS1584CArmedSpec : ChangeSpec := { name := "lawS1584CArmed", fn := fun _ => fun
  | [d1, d2] => { results := [.lit (.bool true)], args := [d1, d2] }
  | _ => none }
def lawS1584CArmedRow : OpenClaim := { program := "ybulkafty", sum := "ea3e50b28e56bf488b0386ffee1d4fa98b9d0cf64ab5d4e17ff7502ddb9676cd", func := "example.com/bdelloid/bdelloid.LawS1584CArmed", spec := "lawS1584CArmed", inPlace := ["sync/atomic.StoreUint64", "sync/atomic.LoadUint64", "(*sync.WaitGroup).Add", "internal/race.ReleaseMerge", "internal/race.Disable", "internal/race.Enable", "internal/synctest.IsInBubble", "internal/synctest.Associate[sync.WaitGroup]", "sync.fatal", "sync/atomic.OrUint64", "sync/atomic.AddUint64", "internal/race.Read", "internal/synctest.Disassociate[sync.WaitGroup]", "sync.runtime_Semrelease"], apart := false }
def LawS1584CArmedSaid : Prop := lawS1584CArmedRow.holds Yba.pinned (OpenSpec.ofChange lawS1584CArmedSpec)

/-- ITS FALSE NEIGHBOUR: 'it returns false'. Refute it at one input. -/
def lawS1584CArmedWrong : ChangeSpec := { name := "lawS1584CArmed", fn := fun _ => fun
  | [d1, d2] => { results := [.lit (.bool false)], args := [d1, d2] }
  | _ => none }
def LawS1584CArmedWrongFalsely : Prop := lawS1584CArmedRow.holds Yba.pinned (OpenSpec.ofChange lawS1584CArmedWrong)

end Rows
end Go.Proofs.Ybulkafty
