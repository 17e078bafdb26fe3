/-
  No cell of these rows narrows 'for every input' (looked for: loops, veiled, ifaces, maps, wideKeys, modest, calm, conditions, laid).
  DERIVED. THE GIVEN ROWS OF THIS SEAT. 1 by the template 'for every input the law returns true; each argument reads behind the call as it read before'; 0 by the template 'total and deterministic' (their statements: YbulkeekaFmtTotals.lean).
  GIVEN WITH THE SEED: the statements are not yours to turn. If you find one false, say at which input.
  Laid BY PROGRAM, IN A SANDBOX (cutbox-rows.mjs): the forced cells as the released guide's own fill.sh prints them over the translation 20a032c23a86224f… (all of the seat's roots in one cut). By AI agents, Wed Nov 11 2026. No macro, syntax, notation, axiom, sorry.
-/
import Derived.Test.YbulkeekaFmtChecked
import GoSem.Claim
import GoSem.ClaimJoined
import GoSem.ClaimMapViews
import Derived.JoinedTies
import Derived.KernelRfl
namespace Go.Proofs.YbulkeekaFmt
/- THE CELL 'sum', in the pinned program and in every row, IS THE sha256 OF THE DUMP (.gsa) THAT YbulkeekaFmtProg.lean LOADS. Nothing in Lean hashes anything: it is a label: what it is worth is what the hold of that sum in a sandbox is worth. -/
noncomputable def Ybaf.pinned : Pinned := { name := "ybulkeekafmt", sum := "20a032c23a86224fa85ff0db957627b9792e0cb93268d0a80fc91d0ef7ab8e03", checked := Ybaf.checked }
namespace Rows
def none {H : Type} : Left H := { results := [], args := [] }

/-- 'mapstone.LawS6539AWhole': WHATEVER THE INPUT: true; the input reads as it did. -/
def lawS6539AWholeSpec : ChangeSpec := { name := "lawS6539AWhole", fn := fun _ => fun
  | [d1, d2, d3, d4] => { results := [.lit (.bool true)], args := [d1, d2, d3, d4] }
  | _ => none }
def lawS6539AWholeRow : OpenClaim := { program := "ybulkeekafmt", sum := "20a032c23a86224fa85ff0db957627b9792e0cb93268d0a80fc91d0ef7ab8e03", func := "example.com/mapstone/mapstone.LawS6539AWhole", spec := "lawS6539AWhole", stops := ["fmt.errorf"], inPlace := ["fmt.errorf"], apart := false }
/-- NO THEOREM (fmt's text is open here; it may be false): for the released tool's asking of the row's closed facts alone. THE STATEMENT IS 'LawS6539AWholeToldSaid' (YbulkeekaFmtCards.lean). -/
def LawS6539AWholeFormAsk : Prop := lawS6539AWholeRow.holds Ybaf.pinned (OpenSpec.ofChange lawS6539AWholeSpec)

/-- ITS FALSE NEIGHBOUR: 'it returns false'. Refute it at one input. -/
def lawS6539AWholeWrong : ChangeSpec := { name := "lawS6539AWhole", fn := fun _ => fun
  | [d1, d2, d3, d4] => { results := [.lit (.bool false)], args := [d1, d2, d3, d4] }
  | _ => none }
def LawS6539AWholeWrongFormAsk : Prop := lawS6539AWholeRow.holds Ybaf.pinned (OpenSpec.ofChange lawS6539AWholeWrong)

end Rows
end Go.Proofs.YbulkeekaFmt
