/-
  No cell of these rows narrows 'for every input' (looked for: loops, veiled, ifaces, maps, wideKeys, modest, calm, conditions, laid).
  DERIVED. THE GIVEN ROWS OF THIS SEAT. 2 by the template 'for every input the law returns true; each argument reads behind the call as it read before'; 0 by the template 'total and deterministic' (their statements: YbulkeeguTotals.lean).
  GIVEN WITH THE SEED: the statements are not yours to turn. If you find one false, say at which input.
  Laid BY PROGRAM, IN A SANDBOX (cutbox-rows.mjs): the forced cells as the released guide's own fill.sh prints them over the translation 0c474bab4380a29e… (all of the seat's roots in one cut). By AI agents, Wed Nov 11 2026. No macro, syntax, notation, axiom, sorry.
-/
import Derived.Test.YbulkeeguChecked
import GoSem.Claim
import GoSem.ClaimJoined
import GoSem.ClaimMapViews
import Derived.JoinedTies
import Derived.KernelRfl
namespace Go.Proofs.Ybulkeegu
/- THE CELL 'sum', in the pinned program and in every row, IS THE sha256 OF THE DUMP (.gsa) THAT YbulkeeguProg.lean LOADS. Nothing in Lean hashes anything: it is a label: what it is worth is what the hold of that sum in a sandbox is worth. -/
noncomputable def Yba.pinned : Pinned := { name := "ybulkeegu", sum := "0c474bab4380a29ef73db925e56abaae7da2c7791eade9d6ce9c25d3bd211fe7", checked := Yba.checked }
namespace Rows
def none {H : Type} : Left H := { results := [], args := [] }

/-- 'crosstick.LawS6533BWhole': WHATEVER THE INPUT: true; the input reads as it did. -/
def lawS6533BWholeSpec : ChangeSpec := { name := "lawS6533BWhole", fn := fun _ => fun
  | [d1, d2, d3, d4, d5] => { results := [.lit (.bool true)], args := [d1, d2, d3, d4, d5] }
  | _ => none }
def lawS6533BWholeRow : OpenClaim := { program := "ybulkeegu", sum := "0c474bab4380a29ef73db925e56abaae7da2c7791eade9d6ce9c25d3bd211fe7", func := "example.com/crosstick/crosstick.LawS6533BWhole", spec := "lawS6533BWhole", inPlace := ["internal/bytealg.CountString", "internal/bytealg.IndexByteString", "internal/bytealg.IndexString"], named := ["internal/bytealg.MaxLen"], apart := false }
def LawS6533BWholeSaid : Prop := lawS6533BWholeRow.holds Yba.pinned (OpenSpec.ofChange lawS6533BWholeSpec)

/-- ITS FALSE NEIGHBOUR: 'it returns false'. Refute it at one input. -/
def lawS6533BWholeWrong : ChangeSpec := { name := "lawS6533BWhole", fn := fun _ => fun
  | [d1, d2, d3, d4, d5] => { results := [.lit (.bool false)], args := [d1, d2, d3, d4, d5] }
  | _ => none }
def LawS6533BWholeWrongFalsely : Prop := lawS6533BWholeRow.holds Yba.pinned (OpenSpec.ofChange lawS6533BWholeWrong)

/-- 'crosstick.LawS6533CWhole': WHATEVER THE INPUT: true; the input reads as it did. -/
def lawS6533CWholeSpec : ChangeSpec := { name := "lawS6533CWhole", fn := fun _ => fun
  | [d1, d2, d3, d4, d5, d6, d7, d8, d9] => { results := [.lit (.bool true)], args := [d1, d2, d3, d4, d5, d6, d7, d8, d9] }
  | _ => none }
def lawS6533CWholeRow : OpenClaim := { program := "ybulkeegu", sum := "0c474bab4380a29ef73db925e56abaae7da2c7791eade9d6ce9c25d3bd211fe7", func := "example.com/crosstick/crosstick.LawS6533CWhole", spec := "lawS6533CWhole", apart := false }
def LawS6533CWholeSaid : Prop := lawS6533CWholeRow.holds Yba.pinned (OpenSpec.ofChange lawS6533CWholeSpec)

/-- ITS FALSE NEIGHBOUR: 'it returns false'. Refute it at one input. -/
def lawS6533CWholeWrong : ChangeSpec := { name := "lawS6533CWhole", fn := fun _ => fun
  | [d1, d2, d3, d4, d5, d6, d7, d8, d9] => { results := [.lit (.bool false)], args := [d1, d2, d3, d4, d5, d6, d7, d8, d9] }
  | _ => none }
def LawS6533CWholeWrongFalsely : Prop := lawS6533CWholeRow.holds Yba.pinned (OpenSpec.ofChange lawS6533CWholeWrong)

end Rows
end Go.Proofs.Ybulkeegu
