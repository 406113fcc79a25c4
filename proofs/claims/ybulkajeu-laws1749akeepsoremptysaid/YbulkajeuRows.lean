/-
  No cell of these rows narrows 'for every input' (looked for: loops, veiled, ifaces, maps, wideKeys, modest, calm, conditions, laid).
  DERIVED. THE GIVEN ROWS OF THIS SEAT. 1 by the template 'for every input the law returns true; each argument reads behind the call as it read before'; 0 by the template 'total and deterministic' (their statements: YbulkajeuTotals.lean).
  GIVEN WITH THE SEED: the statements are not yours to turn. If you find one false, say at which input.
  Laid BY PROGRAM, IN A SANDBOX (cutbox-rows.mjs): the forced cells as the released guide's own fill.sh prints them over the translation d10b48a0600bbecf… (all of the seat's roots in one cut). By AI agents, Wed Nov 11 2026. No macro, syntax, notation, axiom, sorry.
-/
import Derived.Test.YbulkajeuChecked
import GoSem.Claim
import GoSem.ClaimJoined
import GoSem.ClaimMapViews
import Derived.JoinedTies
import Derived.KernelRfl
namespace Go.Proofs.Ybulkajeu
/- THE CELL 'sum', in the pinned program and in every row, IS THE sha256 OF THE DUMP (.gsa) THAT YbulkajeuProg.lean LOADS. Nothing in Lean hashes anything: it is a label: what it is worth is what the hold of that sum in a sandbox is worth. -/
noncomputable def Yba.pinned : Pinned := { name := "ybulkajeu", sum := "d10b48a0600bbecf8f9d81bbe75301f511d25f7bf7dd13c01df92fedcc5e474a", checked := Yba.checked }
namespace Rows
def none {H : Type} : Left H := { results := [], args := [] }

/-- 'server.LawS1749AKeepsOrEmpty': WHATEVER THE INPUT: true; the input reads as it did. -/
def lawS1749AKeepsOrEmptySpec : ChangeSpec := { name := "lawS1749AKeepsOrEmpty", fn := fun _ => fun
  | [d] => { results := [.lit (.bool true)], args := [d] }
  | _ => none }
def lawS1749AKeepsOrEmptyRow : OpenClaim := { program := "ybulkajeu", sum := "d10b48a0600bbecf8f9d81bbe75301f511d25f7bf7dd13c01df92fedcc5e474a", func := "example.com/lanyard/lanyard/server.LawS1749AKeepsOrEmpty", spec := "lawS1749AKeepsOrEmpty", apart := false }
def LawS1749AKeepsOrEmptySaid : Prop := lawS1749AKeepsOrEmptyRow.holds Yba.pinned (OpenSpec.ofChange lawS1749AKeepsOrEmptySpec)

/-- ITS FALSE NEIGHBOUR: 'it returns false'. Refute it at one input. -/
def lawS1749AKeepsOrEmptyWrong : ChangeSpec := { name := "lawS1749AKeepsOrEmpty", fn := fun _ => fun
  | [d] => { results := [.lit (.bool false)], args := [d] }
  | _ => none }
def LawS1749AKeepsOrEmptyWrongFalsely : Prop := lawS1749AKeepsOrEmptyRow.holds Yba.pinned (OpenSpec.ofChange lawS1749AKeepsOrEmptyWrong)

end Rows
end Go.Proofs.Ybulkajeu
