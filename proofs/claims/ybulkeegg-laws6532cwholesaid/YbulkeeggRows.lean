/-
  No cell of these rows narrows 'for every input' (looked for: loops, veiled, ifaces, maps, wideKeys, modest, calm, conditions, laid).
  DERIVED. THE GIVEN ROWS OF THIS SEAT. 1 by the template 'for every input the law returns true; each argument reads behind the call as it read before'; 0 by the template 'total and deterministic' (their statements: YbulkeeggTotals.lean).
  GIVEN WITH THE SEED: the statements are not yours to turn. If you find one false, say at which input.
  Laid BY PROGRAM, IN A SANDBOX (cutbox-rows.mjs): the forced cells as the released guide's own fill.sh prints them over the translation 068c3bd5d81d62d4… (all of the seat's roots in one cut). By AI agents, Wed Nov 11 2026. No macro, syntax, notation, axiom, sorry.
-/
import Derived.Test.YbulkeeggChecked
import GoSem.Claim
import GoSem.ClaimJoined
import GoSem.ClaimMapViews
import Derived.JoinedTies
import Derived.KernelRfl
namespace Go.Proofs.Ybulkeegg
/- THE CELL 'sum', in the pinned program and in every row, IS THE sha256 OF THE DUMP (.gsa) THAT YbulkeeggProg.lean LOADS. Nothing in Lean hashes anything: it is a label: what it is worth is what the hold of that sum in a sandbox is worth. -/
noncomputable def Yba.pinned : Pinned := { name := "ybulkeegg", sum := "068c3bd5d81d62d4d00a80dc3741637b90f363868a01dc1192f7d75dff8f407f", checked := Yba.checked }
namespace Rows
def none {H : Type} : Left H := { results := [], args := [] }

/-- 'semblance.LawS6532CWhole': WHATEVER THE INPUT: true; the input reads as it did. -/
def lawS6532CWholeSpec : ChangeSpec := { name := "lawS6532CWhole", fn := fun _ => fun
  | [d1, d2, d3] => { results := [.lit (.bool true)], args := [d1, d2, d3] }
  | _ => none }
def lawS6532CWholeRow : OpenClaim := { program := "ybulkeegg", sum := "068c3bd5d81d62d4d00a80dc3741637b90f363868a01dc1192f7d75dff8f407f", func := "example.com/semblance/semblance.LawS6532CWhole", spec := "lawS6532CWhole", apart := false }
def LawS6532CWholeSaid : Prop := lawS6532CWholeRow.holds Yba.pinned (OpenSpec.ofChange lawS6532CWholeSpec)

/-- ITS FALSE NEIGHBOUR: 'it returns false'. Refute it at one input. -/
def lawS6532CWholeWrong : ChangeSpec := { name := "lawS6532CWhole", fn := fun _ => fun
  | [d1, d2, d3] => { results := [.lit (.bool false)], args := [d1, d2, d3] }
  | _ => none }
def LawS6532CWholeWrongFalsely : Prop := lawS6532CWholeRow.holds Yba.pinned (OpenSpec.ofChange lawS6532CWholeWrong)

end Rows
end Go.Proofs.Ybulkeegg
