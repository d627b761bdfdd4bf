/-
  No cell of these rows narrows 'for every input' (looked for: loops, veiled, ifaces, maps, wideKeys, modest, calm, conditions, laid).
  DERIVED. THE GIVEN ROWS OF THIS SEAT. 1 by the template 'for every input the law returns true; each argument reads behind the call as it read before'; 0 by the template 'total and deterministic' (their statements: YbulkafygTotals.lean).
  GIVEN WITH THE SEED: the statements are not yours to turn. If you find one false, say at which input.
  Laid BY PROGRAM, IN A SANDBOX (cutbox-rows.mjs): the forced cells as the released guide's own fill.sh prints them over the translation a6ec5d66b16de4b8… (all of the seat's roots in one cut). By AI agents, Wed Nov 11 2026. No macro, syntax, notation, axiom, sorry.
-/
import Derived.Test.YbulkafygChecked
import GoSem.Claim
import GoSem.ClaimJoined
import GoSem.ClaimMapViews
import Derived.JoinedTies
import Derived.KernelRfl
namespace Go.Proofs.Ybulkafyg
/- THE CELL 'sum', in the pinned program and in every row, IS THE sha256 OF THE DUMP (.gsa) THAT YbulkafygProg.lean LOADS. Nothing in Lean hashes anything: it is a label: what it is worth is what the hold of that sum in a sandbox is worth. -/
noncomputable def Yba.pinned : Pinned := { name := "ybulkafyg", sum := "a6ec5d66b16de4b8db2befdaa08559a8e7ee5452d540d74393dcee81d9911e56", checked := Yba.checked }
namespace Rows
def none {H : Type} : Left H := { results := [], args := [] }

/-- 'slopewise.LawS1592AScript': WHATEVER THE INPUT: true; the input reads as it did. -/
def lawS1592AScriptSpec : ChangeSpec := { name := "lawS1592AScript", fn := fun _ => fun
  | [d1, d2, d3, d4, d5, d6, d7, d8, d9] => { results := [.lit (.bool true)], args := [d1, d2, d3, d4, d5, d6, d7, d8, d9] }
  | _ => none }
def lawS1592AScriptRow : OpenClaim := { program := "ybulkafyg", sum := "a6ec5d66b16de4b8db2befdaa08559a8e7ee5452d540d74393dcee81d9911e56", func := "example.com/slopewise/slopewise.LawS1592AScript", spec := "lawS1592AScript", inPlace := ["internal/bytealg.abigen_runtime_cmpstring"], unfollowed := true, recurses := true, plainKeys := false, apart := false }
def LawS1592AScriptSaid : Prop := lawS1592AScriptRow.holds Yba.pinned (OpenSpec.ofChange lawS1592AScriptSpec)

/-- ITS FALSE NEIGHBOUR: 'it returns false'. Refute it at one input. -/
def lawS1592AScriptWrong : ChangeSpec := { name := "lawS1592AScript", fn := fun _ => fun
  | [d1, d2, d3, d4, d5, d6, d7, d8, d9] => { results := [.lit (.bool false)], args := [d1, d2, d3, d4, d5, d6, d7, d8, d9] }
  | _ => none }
def LawS1592AScriptWrongFalsely : Prop := lawS1592AScriptRow.holds Yba.pinned (OpenSpec.ofChange lawS1592AScriptWrong)

end Rows
end Go.Proofs.Ybulkafyg
