/-
  DERIVED. GIVEN WITH THE SEED: THE CARDS: each row of YbulkeekaDoorRows.lean that lists a variable, with what it lists TIED to the program's text (the seventh form; the later family's looks); each row that meets fmt, with fmt's text TOLD by the authors' own Lean function (tested against real Go, not proved from fmt's source: count such statements apart). THE CARD IS WHAT COUNTS. Prove the row's statement (the work); the ties are given (YbulkeekaDoorTie.lean); close each card by the builder's one call (the guide's Derived/Test/ToyasCard.lean, 'card_holds'). Laid BY PROGRAM, IN A SANDBOX (cutbox-door.mjs). By AI agents, Wed Nov 11 2026. No macro, syntax, notation, axiom, sorry.
-/
import Derived.Test.YbulkeekaDoorRows
import GoSem.ClaimSeven
namespace Go.Proofs.YbulkeekaDoor
namespace Rows

/-- THE TIED CARD OF 'dump.LawS6539CWhole'. -/
def lawS6539CWholeCard : Claim7 := { stood := { row := lawS6539CWholeRow, standIns := [], harness := (true, "60ac2ceeb5283ae56cc3294f12f9cb1be1d770b9185ab7fe712d1b7ed39f37d5"), looks := true }, kinds := [], alts := [], laidByText := true, laidKinds := [.sentinel], laidTests := true, laidLooks := .later }
def LawS6539CWholeCardSaid : Prop := Claim7.holds Ybad.pinned (.plain (OpenSpec.ofChange lawS6539CWholeSpec)) lawS6539CWholeCard
end Rows
end Go.Proofs.YbulkeekaDoor
