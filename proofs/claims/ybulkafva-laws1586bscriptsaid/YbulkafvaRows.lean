/-
  No cell of these rows narrows 'for every input' (looked for: loops, veiled, ifaces, maps, wideKeys, modest, calm, conditions, laid).
  DERIVED. THE GIVEN ROWS OF THIS SEAT. 2 by the template 'for every input the law returns true; each argument reads behind the call as it read before'; 0 by the template 'total and deterministic' (their statements: YbulkafvaTotals.lean).
  GIVEN WITH THE SEED: the statements are not yours to turn. If you find one false, say at which input.
  Laid BY PROGRAM, IN A SANDBOX (cutbox-rows.mjs): the forced cells as the released guide's own fill.sh prints them over the translation 881dbcc558e9f0f8… (all of the seat's roots in one cut). By AI agents, Wed Nov 11 2026. No macro, syntax, notation, axiom, sorry.
-/
import Derived.Test.YbulkafvaChecked
import GoSem.Claim
import GoSem.ClaimJoined
import GoSem.ClaimMapViews
import Derived.JoinedTies
import Derived.KernelRfl
namespace Go.Proofs.Ybulkafva
/- THE CELL 'sum', in the pinned program and in every row, IS THE sha256 OF THE DUMP (.gsa) THAT YbulkafvaProg.lean LOADS. Nothing in Lean hashes anything: it is a label: what it is worth is what the hold of that sum in a sandbox is worth. -/
noncomputable def Yba.pinned : Pinned := { name := "ybulkafva", sum := "881dbcc558e9f0f85d687372900914a205fc82024706c3ef5bb784fad2f580bb", checked := Yba.checked }
namespace Rows
def none {H : Type} : Left H := { results := [], args := [] }

/-- 'coord.LawS1586BStable': WHATEVER THE INPUT: true; the input reads as it did. -/
def lawS1586BStableSpec : ChangeSpec := { name := "lawS1586BStable", fn := fun _ => fun
  | [d1, d2] => { results := [.lit (.bool true)], args := [d1, d2] }
  | _ => none }
def lawS1586BStableRow : OpenClaim := { program := "ybulkafva", sum := "881dbcc558e9f0f85d687372900914a205fc82024706c3ef5bb784fad2f580bb", func := "example.com/rostrum/rostrum/pkg/coord.LawS1586BStable", spec := "lawS1586BStable", apart := false }
def LawS1586BStableSaid : Prop := lawS1586BStableRow.holds Yba.pinned (OpenSpec.ofChange lawS1586BStableSpec)

/-- ITS FALSE NEIGHBOUR: 'it returns false'. Refute it at one input. -/
def lawS1586BStableWrong : ChangeSpec := { name := "lawS1586BStable", fn := fun _ => fun
  | [d1, d2] => { results := [.lit (.bool false)], args := [d1, d2] }
  | _ => none }
def LawS1586BStableWrongFalsely : Prop := lawS1586BStableRow.holds Yba.pinned (OpenSpec.ofChange lawS1586BStableWrong)

/-- 'coord.LawS1586BScript': WHATEVER THE INPUT: true; the input reads as it did. -/
def lawS1586BScriptSpec : ChangeSpec := { name := "lawS1586BScript", fn := fun _ => fun
  | [d1, d2] => { results := [.lit (.bool true)], args := [d1, d2] }
  | _ => none }
def lawS1586BScriptRow : OpenClaim := { program := "ybulkafva", sum := "881dbcc558e9f0f85d687372900914a205fc82024706c3ef5bb784fad2f580bb", func := "example.com/rostrum/rostrum/pkg/coord.LawS1586BScript", spec := "lawS1586BScript", apart := false }
def LawS1586BScriptSaid : Prop := lawS1586BScriptRow.holds Yba.pinned (OpenSpec.ofChange lawS1586BScriptSpec)

/-- ITS FALSE NEIGHBOUR: 'it returns false'. Refute it at one input. -/
def lawS1586BScriptWrong : ChangeSpec := { name := "lawS1586BScript", fn := fun _ => fun
  | [d1, d2] => { results := [.lit (.bool false)], args := [d1, d2] }
  | _ => none }
def LawS1586BScriptWrongFalsely : Prop := lawS1586BScriptRow.holds Yba.pinned (OpenSpec.ofChange lawS1586BScriptWrong)

end Rows
end Go.Proofs.Ybulkafva
