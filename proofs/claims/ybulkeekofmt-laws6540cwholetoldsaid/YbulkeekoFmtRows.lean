/-
  No cell of these rows narrows 'for every input' (looked for: loops, veiled, ifaces, maps, wideKeys, modest, calm, conditions, laid).
  DERIVED. THE GIVEN ROWS OF THIS SEAT. 2 by the template 'for every input the law returns true; each argument reads behind the call as it read before'; 0 by the template 'total and deterministic' (their statements: YbulkeekoFmtTotals.lean).
  GIVEN WITH THE SEED: the statements are not yours to turn. If you find one false, say at which input.
  Laid BY PROGRAM, IN A SANDBOX (cutbox-rows.mjs): the forced cells as the released guide's own fill.sh prints them over the translation e19b4c416715fc4f… (all of the seat's roots in one cut). By AI agents, Wed Nov 11 2026. No macro, syntax, notation, axiom, sorry.
-/
import Derived.Test.YbulkeekoFmtChecked
import GoSem.Claim
import GoSem.ClaimJoined
import GoSem.ClaimMapViews
import Derived.JoinedTies
import Derived.KernelRfl
namespace Go.Proofs.YbulkeekoFmt
/- THE CELL 'sum', in the pinned program and in every row, IS THE sha256 OF THE DUMP (.gsa) THAT YbulkeekoFmtProg.lean LOADS. Nothing in Lean hashes anything: it is a label: what it is worth is what the hold of that sum in a sandbox is worth. -/
noncomputable def Ybaf.pinned : Pinned := { name := "ybulkeekofmt", sum := "e19b4c416715fc4f2cb2815c4fc4440e95ef452d3e55a0ee275ed3762b022da9", checked := Ybaf.checked }
namespace Rows
def none {H : Type} : Left H := { results := [], args := [] }

/-- 'tidemark.LawS6540AWhole': WHATEVER THE INPUT: true; the input reads as it did. -/
def lawS6540AWholeSpec : ChangeSpec := { name := "lawS6540AWhole", fn := fun _ => fun
  | [d1, d2, d3, d4, d5] => { results := [.lit (.bool true)], args := [d1, d2, d3, d4, d5] }
  | _ => none }
def lawS6540AWholeRow : OpenClaim := { program := "ybulkeekofmt", sum := "e19b4c416715fc4f2cb2815c4fc4440e95ef452d3e55a0ee275ed3762b022da9", func := "example.com/tidemark/tidemark.LawS6540AWhole", spec := "lawS6540AWhole", stops := ["fmt.Sprintf", "fmt.errorf"], inPlace := ["fmt.Sprintf", "fmt.errorf"], apart := false }
/-- NO THEOREM (fmt's text is open here; it may be false): for the released tool's asking of the row's closed facts alone. THE STATEMENT IS 'LawS6540AWholeToldSaid' (YbulkeekoFmtCards.lean). -/
def LawS6540AWholeFormAsk : Prop := lawS6540AWholeRow.holds Ybaf.pinned (OpenSpec.ofChange lawS6540AWholeSpec)

/-- ITS FALSE NEIGHBOUR: 'it returns false'. Refute it at one input. -/
def lawS6540AWholeWrong : ChangeSpec := { name := "lawS6540AWhole", fn := fun _ => fun
  | [d1, d2, d3, d4, d5] => { results := [.lit (.bool false)], args := [d1, d2, d3, d4, d5] }
  | _ => none }
def LawS6540AWholeWrongFormAsk : Prop := lawS6540AWholeRow.holds Ybaf.pinned (OpenSpec.ofChange lawS6540AWholeWrong)

/-- 'tidemark.LawS6540CWhole': WHATEVER THE INPUT: true; the input reads as it did. -/
def lawS6540CWholeSpec : ChangeSpec := { name := "lawS6540CWhole", fn := fun _ => fun
  | [d1, d2, d3, d4, d5, d6, d7, d8, d9] => { results := [.lit (.bool true)], args := [d1, d2, d3, d4, d5, d6, d7, d8, d9] }
  | _ => none }
def lawS6540CWholeRow : OpenClaim := { program := "ybulkeekofmt", sum := "e19b4c416715fc4f2cb2815c4fc4440e95ef452d3e55a0ee275ed3762b022da9", func := "example.com/tidemark/tidemark.LawS6540CWhole", spec := "lawS6540CWhole", stops := ["fmt.Sprintf", "fmt.errorf"], inPlace := ["fmt.Sprintf", "fmt.errorf"], apart := false }
/-- NO THEOREM (fmt's text is open here; it may be false): for the released tool's asking of the row's closed facts alone. THE STATEMENT IS 'LawS6540CWholeToldSaid' (YbulkeekoFmtCards.lean). -/
def LawS6540CWholeFormAsk : Prop := lawS6540CWholeRow.holds Ybaf.pinned (OpenSpec.ofChange lawS6540CWholeSpec)

/-- ITS FALSE NEIGHBOUR: 'it returns false'. Refute it at one input. -/
def lawS6540CWholeWrong : ChangeSpec := { name := "lawS6540CWhole", fn := fun _ => fun
  | [d1, d2, d3, d4, d5, d6, d7, d8, d9] => { results := [.lit (.bool false)], args := [d1, d2, d3, d4, d5, d6, d7, d8, d9] }
  | _ => none }
def LawS6540CWholeWrongFormAsk : Prop := lawS6540CWholeRow.holds Ybaf.pinned (OpenSpec.ofChange lawS6540CWholeWrong)

end Rows
end Go.Proofs.YbulkeekoFmt
