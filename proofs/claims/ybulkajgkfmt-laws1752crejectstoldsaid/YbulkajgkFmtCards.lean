/-
  DERIVED. GIVEN WITH THE SEED: THE CARDS: each row of YbulkajgkFmtRows.lean that lists a variable, with what it lists TIED to the program's text (the seventh form; the later family's looks); each row that meets fmt, with fmt's text TOLD by the authors' own Lean function (tested against real Go, not proved from fmt's source: count such statements apart). THE CARD IS WHAT COUNTS. Prove the row's statement (the work); the ties are given (YbulkajgkFmtTie.lean); close each card by the builder's one call (the guide's Derived/Test/ToyasCard.lean, 'card_holds'). Laid BY PROGRAM, IN A SANDBOX (cutbox-door.mjs). By AI agents, Wed Nov 11 2026. No macro, syntax, notation, axiom, sorry.
-/
import Derived.Test.YbulkajgkFmtRows
import GoSem.ClaimSeven
namespace Go.Proofs.YbulkajgkFmt
namespace Rows

/-- THE TOLD CARD OF 'kdl.LawS1752CStrips'. -/
def lawS1752CStripsCard : Claim7 := { stood := { row := lawS1752CStripsRow, standIns := [], harness := (true, "58f238d21cd7f12589bc3463bbe02cef0371397d43b834eae7268a952489fc93"), looks := true }, told := true, goes := false }
def LawS1752CStripsToldSaid : Prop := Claim7.holds Ybaf.pinned (.plain (OpenSpec.ofChange lawS1752CStripsSpec)) lawS1752CStripsCard
/-- ITS FALSE NEIGHBOUR. Refute it at one input. -/
def LawS1752CStripsToldWrongFalsely : Prop := Claim7.holds Ybaf.pinned (.plain (OpenSpec.ofChange lawS1752CStripsWrong)) lawS1752CStripsCard

/-- THE TOLD CARD OF 'kdl.LawS1752CRejects'. -/
def lawS1752CRejectsCard : Claim7 := { stood := { row := lawS1752CRejectsRow, standIns := [], harness := (true, "58f238d21cd7f12589bc3463bbe02cef0371397d43b834eae7268a952489fc93"), looks := true }, told := true, goes := false }
def LawS1752CRejectsToldSaid : Prop := Claim7.holds Ybaf.pinned (.plain (OpenSpec.ofChange lawS1752CRejectsSpec)) lawS1752CRejectsCard
/-- ITS FALSE NEIGHBOUR. Refute it at one input. -/
def LawS1752CRejectsToldWrongFalsely : Prop := Claim7.holds Ybaf.pinned (.plain (OpenSpec.ofChange lawS1752CRejectsWrong)) lawS1752CRejectsCard
end Rows
end Go.Proofs.YbulkajgkFmt
