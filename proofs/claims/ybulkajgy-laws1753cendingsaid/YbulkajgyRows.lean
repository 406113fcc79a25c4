/-
  No cell of these rows narrows 'for every input' (looked for: loops, veiled, ifaces, maps, wideKeys, modest, calm, conditions, laid).
  DERIVED. THE GIVEN ROWS OF THIS SEAT. 1 by the template 'for every input the law returns true; each argument reads behind the call as it read before'; 0 by the template 'total and deterministic' (their statements: YbulkajgyTotals.lean).
  GIVEN WITH THE SEED: the statements are not yours to turn. If you find one false, say at which input.
  Laid BY PROGRAM, IN A SANDBOX (cutbox-rows.mjs): the forced cells as the released guide's own fill.sh prints them over the translation ff71ace86e693625… (all of the seat's roots in one cut). By AI agents, Wed Nov 11 2026. No macro, syntax, notation, axiom, sorry.
-/
import Derived.Test.YbulkajgyChecked
import GoSem.Claim
import GoSem.ClaimJoined
import GoSem.ClaimMapViews
import Derived.JoinedTies
import Derived.KernelRfl
namespace Go.Proofs.Ybulkajgy
/- THE CELL 'sum', in the pinned program and in every row, IS THE sha256 OF THE DUMP (.gsa) THAT YbulkajgyProg.lean LOADS. Nothing in Lean hashes anything: it is a label: what it is worth is what the hold of that sum in a sandbox is worth. -/
noncomputable def Yba.pinned : Pinned := { name := "ybulkajgy", sum := "ff71ace86e693625903a6138733fed4c01d71e2d3f84ee99a41546ed2ab7c26f", checked := Yba.checked }
namespace Rows
def none {H : Type} : Left H := { results := [], args := [] }

/-- 'journal.LawS1753CEnding': WHATEVER THE INPUT: true; the input reads as it did. -/
def lawS1753CEndingSpec : ChangeSpec := { name := "lawS1753CEnding", fn := fun _ => fun
  | [d1, d2, d3, d4, d5, d6] => { results := [.lit (.bool true)], args := [d1, d2, d3, d4, d5, d6] }
  | _ => none }
def lawS1753CEndingRow : OpenClaim := { program := "ybulkajgy", sum := "ff71ace86e693625903a6138733fed4c01d71e2d3f84ee99a41546ed2ab7c26f", func := "example.com/wary-saga/wary-saga/internal/journal.LawS1753CEnding", spec := "lawS1753CEnding", apart := false }
def LawS1753CEndingSaid : Prop := lawS1753CEndingRow.holds Yba.pinned (OpenSpec.ofChange lawS1753CEndingSpec)

/-- ITS FALSE NEIGHBOUR: 'it returns false'. Refute it at one input. -/
def lawS1753CEndingWrong : ChangeSpec := { name := "lawS1753CEnding", fn := fun _ => fun
  | [d1, d2, d3, d4, d5, d6] => { results := [.lit (.bool false)], args := [d1, d2, d3, d4, d5, d6] }
  | _ => none }
def LawS1753CEndingWrongFalsely : Prop := lawS1753CEndingRow.holds Yba.pinned (OpenSpec.ofChange lawS1753CEndingWrong)

end Rows
end Go.Proofs.Ybulkajgy
