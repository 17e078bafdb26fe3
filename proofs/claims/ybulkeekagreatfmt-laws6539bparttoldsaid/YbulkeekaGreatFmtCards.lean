/-
  DERIVED. GIVEN WITH THE SEED: THE CARDS: each row of YbulkeekaGreatFmtRows.lean that lists a variable, with what it lists TIED to the program's text (the seventh form; the later family's looks); each row that meets fmt, with fmt's text TOLD by the authors' own Lean function (tested against real Go, not proved from fmt's source: count such statements apart). THE CARD IS WHAT COUNTS. Prove the row's statement (the work); the ties are given (YbulkeekaGreatFmtTie.lean); close each card by the builder's one call (the guide's Derived/Test/ToyasCard.lean, 'card_holds'). Laid BY PROGRAM, IN A SANDBOX (cutbox-door.mjs). By AI agents, Wed Nov 11 2026. No macro, syntax, notation, axiom, sorry.
-/
import Derived.Test.YbulkeekaGreatFmtRows
import GoSem.ClaimSeven
namespace Go.Proofs.YbulkeekaGreatFmt
namespace Rows

/-- THE TOLD AND TIED CARD OF 'mapstone.LawS6539BPart'. -/
def lawS6539BPartCard : Claim7 := { stood := { row := lawS6539BPartRow, standIns := [], harness := (true, "3d8fd81ac7dcacf4e4a12a4dacc765576f52a8d7d0f8ef5f158f885842eccf68"), looks := false }, told := true, laidByText := true, laidKinds := [.sentinel], laidTests := true, laidLooks := .later, goes := false }
def LawS6539BPartToldSaid : Prop := Claim7.holds Ybaz.pinned (.plain (OpenSpec.ofChange lawS6539BPartSpec)) lawS6539BPartCard
/-- ITS FALSE NEIGHBOUR. Refute it at one input. -/
def LawS6539BPartToldWrongFalsely : Prop := Claim7.holds Ybaz.pinned (.plain (OpenSpec.ofChange lawS6539BPartWrong)) lawS6539BPartCard
end Rows
end Go.Proofs.YbulkeekaGreatFmt
