/-
  DERIVED. GIVEN WITH THE SEED: THE CARDS: each row of YbulkeekaFmtRows.lean that lists a variable, with what it lists TIED to the program's text (the seventh form; the later family's looks); each row that meets fmt, with fmt's text TOLD by the authors' own Lean function (tested against real Go, not proved from fmt's source: count such statements apart). THE CARD IS WHAT COUNTS. Prove the row's statement (the work); the ties are given (YbulkeekaFmtTie.lean); close each card by the builder's one call (the guide's Derived/Test/ToyasCard.lean, 'card_holds'). Laid BY PROGRAM, IN A SANDBOX (cutbox-door.mjs). By AI agents, Wed Nov 11 2026. No macro, syntax, notation, axiom, sorry.
-/
import Derived.Test.YbulkeekaFmtRows
import GoSem.ClaimSeven
namespace Go.Proofs.YbulkeekaFmt
namespace Rows

/-- THE TOLD CARD OF 'mapstone.LawS6539AWhole'. -/
def lawS6539AWholeCard : Claim7 := { stood := { row := lawS6539AWholeRow, standIns := [], harness := (true, "88edd81b6934bf8342e41d94581ed0224c53c230eaa0b92e535222ee0531c7a1"), looks := false }, told := true, goes := false }
def LawS6539AWholeToldSaid : Prop := Claim7.holds Ybaf.pinned (.plain (OpenSpec.ofChange lawS6539AWholeSpec)) lawS6539AWholeCard
/-- ITS FALSE NEIGHBOUR. Refute it at one input. -/
def LawS6539AWholeToldWrongFalsely : Prop := Claim7.holds Ybaf.pinned (.plain (OpenSpec.ofChange lawS6539AWholeWrong)) lawS6539AWholeCard
end Rows
end Go.Proofs.YbulkeekaFmt
