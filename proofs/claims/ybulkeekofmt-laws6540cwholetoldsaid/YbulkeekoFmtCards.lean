/-
  DERIVED. GIVEN WITH THE SEED: THE CARDS: each row of YbulkeekoFmtRows.lean that lists a variable, with what it lists TIED to the program's text (the seventh form; the later family's looks); each row that meets fmt, with fmt's text TOLD by the authors' own Lean function (tested against real Go, not proved from fmt's source: count such statements apart). THE CARD IS WHAT COUNTS. Prove the row's statement (the work); the ties are given (YbulkeekoFmtTie.lean); close each card by the builder's one call (the guide's Derived/Test/ToyasCard.lean, 'card_holds'). Laid BY PROGRAM, IN A SANDBOX (cutbox-door.mjs). By AI agents, Wed Nov 11 2026. No macro, syntax, notation, axiom, sorry.
-/
import Derived.Test.YbulkeekoFmtRows
import GoSem.ClaimSeven
namespace Go.Proofs.YbulkeekoFmt
namespace Rows

/-- THE TOLD CARD OF 'tidemark.LawS6540AWhole'. -/
def lawS6540AWholeCard : Claim7 := { stood := { row := lawS6540AWholeRow, standIns := [], harness := (true, "64e2b729f8bddcd4d70c193d35e7412fef4e8eea2f7ace78eaec41b4aa449170"), looks := false }, told := true, goes := false }
def LawS6540AWholeToldSaid : Prop := Claim7.holds Ybaf.pinned (.plain (OpenSpec.ofChange lawS6540AWholeSpec)) lawS6540AWholeCard
/-- ITS FALSE NEIGHBOUR. Refute it at one input. -/
def LawS6540AWholeToldWrongFalsely : Prop := Claim7.holds Ybaf.pinned (.plain (OpenSpec.ofChange lawS6540AWholeWrong)) lawS6540AWholeCard

/-- THE TOLD CARD OF 'tidemark.LawS6540CWhole'. -/
def lawS6540CWholeCard : Claim7 := { stood := { row := lawS6540CWholeRow, standIns := [], harness := (true, "64e2b729f8bddcd4d70c193d35e7412fef4e8eea2f7ace78eaec41b4aa449170"), looks := false }, told := true, goes := false }
def LawS6540CWholeToldSaid : Prop := Claim7.holds Ybaf.pinned (.plain (OpenSpec.ofChange lawS6540CWholeSpec)) lawS6540CWholeCard
/-- ITS FALSE NEIGHBOUR. Refute it at one input. -/
def LawS6540CWholeToldWrongFalsely : Prop := Claim7.holds Ybaf.pinned (.plain (OpenSpec.ofChange lawS6540CWholeWrong)) lawS6540CWholeCard
end Rows
end Go.Proofs.YbulkeekoFmt
