/-
  No cell of these rows narrows 'for every input' (looked for: loops, veiled, ifaces, maps, wideKeys, modest, calm, conditions, laid).
  DERIVED. THE GIVEN ROWS OF THIS SEAT. 2 by the template 'for every input the law returns true; each argument reads behind the call as it read before'; 0 by the template 'total and deterministic' (their statements: YbulkajgkFmtTotals.lean).
  GIVEN WITH THE SEED: the statements are not yours to turn. If you find one false, say at which input.
  Laid BY PROGRAM, IN A SANDBOX (cutbox-rows.mjs): the forced cells as the released guide's own fill.sh prints them over the translation f12b9162d3243a34… (all of the seat's roots in one cut). By AI agents, Wed Nov 11 2026. No macro, syntax, notation, axiom, sorry.
-/
import Derived.Test.YbulkajgkFmtChecked
import GoSem.Claim
import GoSem.ClaimJoined
import GoSem.ClaimMapViews
import Derived.JoinedTies
import Derived.KernelRfl
namespace Go.Proofs.YbulkajgkFmt
/- THE CELL 'sum', in the pinned program and in every row, IS THE sha256 OF THE DUMP (.gsa) THAT YbulkajgkFmtProg.lean LOADS. Nothing in Lean hashes anything: it is a label: what it is worth is what the hold of that sum in a sandbox is worth. -/
noncomputable def Ybaf.pinned : Pinned := { name := "ybulkajgkfmt", sum := "f12b9162d3243a348ea6971f155586ab299fbe4f8245b8a9e79d0da62237a0cc", checked := Ybaf.checked }
namespace Rows
def none {H : Type} : Left H := { results := [], args := [] }

/-- 'kdl.LawS1752CStrips': WHATEVER THE INPUT: true; the input reads as it did. -/
def lawS1752CStripsSpec : ChangeSpec := { name := "lawS1752CStrips", fn := fun _ => fun
  | [d1, d2, d3] => { results := [.lit (.bool true)], args := [d1, d2, d3] }
  | _ => none }
def lawS1752CStripsRow : OpenClaim := { program := "ybulkajgkfmt", sum := "f12b9162d3243a348ea6971f155586ab299fbe4f8245b8a9e79d0da62237a0cc", func := "example.com/nodewright/nodewright/kdl.LawS1752CStrips", spec := "lawS1752CStrips", stops := ["fmt.Sprintf, its operands' methods called"], inPlace := ["internal/abi.NoEscape", "internal/bytealg.MakeNoZero", "fmt.Sprintf"], unfollowed := true, recurses := true, apart := false }
/-- NO THEOREM (fmt's text is open here; it may be false): for the released tool's asking of the row's closed facts alone. THE STATEMENT IS 'LawS1752CStripsToldSaid' (YbulkajgkFmtCards.lean). -/
def LawS1752CStripsFormAsk : Prop := lawS1752CStripsRow.holds Ybaf.pinned (OpenSpec.ofChange lawS1752CStripsSpec)

/-- ITS FALSE NEIGHBOUR: 'it returns false'. Refute it at one input. -/
def lawS1752CStripsWrong : ChangeSpec := { name := "lawS1752CStrips", fn := fun _ => fun
  | [d1, d2, d3] => { results := [.lit (.bool false)], args := [d1, d2, d3] }
  | _ => none }
def LawS1752CStripsWrongFormAsk : Prop := lawS1752CStripsRow.holds Ybaf.pinned (OpenSpec.ofChange lawS1752CStripsWrong)

/-- 'kdl.LawS1752CRejects': WHATEVER THE INPUT: true; the input reads as it did. -/
def lawS1752CRejectsSpec : ChangeSpec := { name := "lawS1752CRejects", fn := fun _ => fun
  | [d1, d2, d3, d4, d5, d6, d7] => { results := [.lit (.bool true)], args := [d1, d2, d3, d4, d5, d6, d7] }
  | _ => none }
def lawS1752CRejectsRow : OpenClaim := { program := "ybulkajgkfmt", sum := "f12b9162d3243a348ea6971f155586ab299fbe4f8245b8a9e79d0da62237a0cc", func := "example.com/nodewright/nodewright/kdl.LawS1752CRejects", spec := "lawS1752CRejects", stops := ["fmt.Sprintf, its operands' methods called"], inPlace := ["internal/abi.NoEscape", "internal/bytealg.MakeNoZero", "fmt.Sprintf"], unfollowed := true, recurses := true, apart := false }
/-- NO THEOREM (fmt's text is open here; it may be false): for the released tool's asking of the row's closed facts alone. THE STATEMENT IS 'LawS1752CRejectsToldSaid' (YbulkajgkFmtCards.lean). -/
def LawS1752CRejectsFormAsk : Prop := lawS1752CRejectsRow.holds Ybaf.pinned (OpenSpec.ofChange lawS1752CRejectsSpec)

/-- ITS FALSE NEIGHBOUR: 'it returns false'. Refute it at one input. -/
def lawS1752CRejectsWrong : ChangeSpec := { name := "lawS1752CRejects", fn := fun _ => fun
  | [d1, d2, d3, d4, d5, d6, d7] => { results := [.lit (.bool false)], args := [d1, d2, d3, d4, d5, d6, d7] }
  | _ => none }
def LawS1752CRejectsWrongFormAsk : Prop := lawS1752CRejectsRow.holds Ybaf.pinned (OpenSpec.ofChange lawS1752CRejectsWrong)

end Rows
end Go.Proofs.YbulkajgkFmt
