/-
  No cell of these rows narrows 'for every input' (looked for: loops, veiled, ifaces, maps, wideKeys, modest, calm, conditions, laid).
  DERIVED. THE GIVEN ROWS OF THIS SEAT. 2 by the template 'for every input the law returns true; each argument reads behind the call as it read before'; 0 by the template 'total and deterministic' (their statements: YbulkajfiTotals.lean).
  GIVEN WITH THE SEED: the statements are not yours to turn. If you find one false, say at which input.
  Laid BY PROGRAM, IN A SANDBOX (cutbox-rows.mjs): the forced cells as the released guide's own fill.sh prints them over the translation bac0f85f6927cc03… (all of the seat's roots in one cut). By AI agents, Wed Nov 11 2026. No macro, syntax, notation, axiom, sorry.
-/
import Derived.Test.YbulkajfiChecked
import GoSem.Claim
import GoSem.ClaimJoined
import GoSem.ClaimMapViews
import Derived.JoinedTies
import Derived.KernelRfl
namespace Go.Proofs.Ybulkajfi
/- THE CELL 'sum', in the pinned program and in every row, IS THE sha256 OF THE DUMP (.gsa) THAT YbulkajfiProg.lean LOADS. Nothing in Lean hashes anything: it is a label: what it is worth is what the hold of that sum in a sandbox is worth. -/
noncomputable def Yba.pinned : Pinned := { name := "ybulkajfi", sum := "bac0f85f6927cc032c5f2143299c3a6baacda87d2eb91fb301d6e2d3ad92e009", checked := Yba.checked }
namespace Rows
def none {H : Type} : Left H := { results := [], args := [] }

/-- 'hopseal.LawS1750ACommon': WHATEVER THE INPUT: true; the input reads as it did. -/
def lawS1750ACommonSpec : ChangeSpec := { name := "lawS1750ACommon", fn := fun _ => fun
  | [d1, d2] => { results := [.lit (.bool true)], args := [d1, d2] }
  | _ => none }
def lawS1750ACommonRow : OpenClaim := { program := "ybulkajfi", sum := "bac0f85f6927cc032c5f2143299c3a6baacda87d2eb91fb301d6e2d3ad92e009", func := "example.com/hopseal/hopseal.LawS1750ACommon", spec := "lawS1750ACommon", apart := false }
def LawS1750ACommonSaid : Prop := lawS1750ACommonRow.holds Yba.pinned (OpenSpec.ofChange lawS1750ACommonSpec)

/-- ITS FALSE NEIGHBOUR: 'it returns false'. Refute it at one input. -/
def lawS1750ACommonWrong : ChangeSpec := { name := "lawS1750ACommon", fn := fun _ => fun
  | [d1, d2] => { results := [.lit (.bool false)], args := [d1, d2] }
  | _ => none }
def LawS1750ACommonWrongFalsely : Prop := lawS1750ACommonRow.holds Yba.pinned (OpenSpec.ofChange lawS1750ACommonWrong)

/-- 'hopseal.LawS1750AZero': WHATEVER THE INPUT: true; the input reads as it did. -/
def lawS1750AZeroSpec : ChangeSpec := { name := "lawS1750AZero", fn := fun _ => fun
  | [d1, d2] => { results := [.lit (.bool true)], args := [d1, d2] }
  | _ => none }
def lawS1750AZeroRow : OpenClaim := { program := "ybulkajfi", sum := "bac0f85f6927cc032c5f2143299c3a6baacda87d2eb91fb301d6e2d3ad92e009", func := "example.com/hopseal/hopseal.LawS1750AZero", spec := "lawS1750AZero", apart := false }
def LawS1750AZeroSaid : Prop := lawS1750AZeroRow.holds Yba.pinned (OpenSpec.ofChange lawS1750AZeroSpec)

/-- ITS FALSE NEIGHBOUR: 'it returns false'. Refute it at one input. -/
def lawS1750AZeroWrong : ChangeSpec := { name := "lawS1750AZero", fn := fun _ => fun
  | [d1, d2] => { results := [.lit (.bool false)], args := [d1, d2] }
  | _ => none }
def LawS1750AZeroWrongFalsely : Prop := lawS1750AZeroRow.holds Yba.pinned (OpenSpec.ofChange lawS1750AZeroWrong)

end Rows
end Go.Proofs.Ybulkajfi
